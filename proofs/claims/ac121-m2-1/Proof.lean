import JvmDerived
import JvmDerived.Pilot.@@N@@Statement
import JvmDerived.Pilot.@@N@@Code
set_option linter.unusedVariables false
set_option linter.unusedSimpArgs false
namespace Jvm.RoadKit
open Sem ClassFile Op Lib Jvm.Stand Jvm.Free Jvm.LawKit
section New
variable {p : Program} {l : Launch} {e : Env} {R : Room} {s : State} {m : MethodId} {args : Array Value} {below : List Frame} {meth : Method} {c : Code} {T : State} {locs : List Loc} {cells slots : Nat}
theorem retI (X : Stand p l e R s m args below meth c T locs cells slots) (hx : p.tables.exec = Jvm.exec) {pc : Nat} {Ls : Array Slot} {z : Int32} {rest : List Value} (hret : meth.sig.returnType = some .int) (hd : decode c.code pc = .ok (.ireturn, 1)) {fs : List Frame}
    (hl : ∀ (f : JFrame) (acts : List Action), f.method = m → f.locked = none → f.entered = [] → (doReturn e (T.setTop f) acts (some (.int z))).1 = T.setFrames fs) : Steps p.tables e below (T.setTop (mkF m pc Ls (.int z :: rest))) (T.setFrames fs) := by
  have hm' : T.vm.method? m = some meth := X.method'
  have hn : narrow .int (.int z) = .int z := rfl
  show Steps p.tables e below (T.setTop { method := m, pc := pc, locals := Ls, stack := _ :: rest, locked := none }) _
  jvm_step X.here [X.here.top, hx, hd, hm', hret, hn]
  first | (intro acts; rw [hl _ acts rfl rfl rfl]) | rw [hl _ _ rfl rfl rfl]
  exact Steps.refl _
end New
end Jvm.RoadKit
namespace Jvm.Pilot.@@N@@
open Jvm Jvm.ClassFile Sem Op Lib Jvm.Free Jvm.Stand Jvm.LawKit Jvm.RoadKit Bundle Jvm.Pilot.@@N@@.Jvm.D
theorem own_nb {P : Prop} [Decidable P] : nar .boolean (if P then (1 : Int32) else (0 : Int32)) = if P then (1 : Int32) else (0 : Int32) := by split <;> rfl
theorem own_nb2 {z : Int32} (h : z = 0 ∨ z = 1) : nar .boolean z = z := by rcases h with rfl | rfl <;> rfl
theorem own_01 {P : Prop} [Decidable P] : (if P then (1 : Int32) else (0 : Int32)) = 0 ∨ (if P then (1 : Int32) else (0 : Int32)) = 1 := by split <;> simp
theorem own_iv {a b : Int32} (h : a = b) : some (Value.int a) = some (Value.int b) := by rw [h]
theorem own_lv {a b : Int64} (h : a = b) : some (Value.long a) = some (Value.long b) := by rw [h]
theorem own_wS {a0 : Array Value} {Z : State} (hw : ∀ d ∈ tables_1, d.before a0 Z = true) : ∀ a ∈ Bundle.stringAtoms, a.before a0 Z = true := by
  intro a ha
  simp only [Bundle.stringAtoms, List.mem_cons, List.not_mem_nil, or_false] at ha
  rcases ha with rfl | rfl | rfl | rfl | rfl | rfl | rfl
  · exact (hw _ (List.mem_of_getElem? (i := 3) rfl))
  · exact (hw _ (List.mem_of_getElem? (i := 2) rfl))
  · exact (hw _ (List.mem_of_getElem? (i := 20) rfl))
  · exact (hw _ (List.mem_of_getElem? (i := 30) rfl))
  · exact (hw _ (List.mem_of_getElem? (i := 28) rfl))
  · exact (hw _ (List.mem_of_getElem? (i := 44) rfl))
  · exact (hw _ (List.mem_of_getElem? (i := 45) rfl))
theorem own_b8 (x : Int32) : x.toInt8.toInt32.toInt8.toInt32 = x.toInt8.toInt32 := by simp
theorem own_not0 {args : Array Value} {s : State} {t : Term} {z : Int32} (ht : t.eval args s none [] s = some (.int z)) (h : (Jvm.Cond.not (.eq t (.int 0))).value args s none s [] = some true) : ¬ (z = (0 : Int32)) := by
  have h2 := not_v h
  simpa [Cond.value, ht, Term.eval] using h2
theorem own_255 (x : Int32) : ¬ ((255 : Int32) < (x &&& (255 : Int32))) := by
  have h := c_mask x 255 8 (by decide) (by decide)
  have h2 : (255 : Int32).toInt = 255 := rfl
  rw [Int32.lt_iff_toInt_lt]; omega
def own_B (c : Int32) : Prop := 0 ≤ c.toInt ∧ c.toInt ≤ 255
theorem own_Bm (x : Int32) : own_B (x &&& (255 : Int32)) := by
  have h := c_mask x 255 8 (by decide) (by decide)
  unfold own_B; omega
theorem own_Bi {P : Prop} [Decidable P] {a b : Int32} (h1 : own_B a) (h2 : own_B b) : own_B (if P then a else b) := by split <;> assumption
theorem own_B5 {c : Int32} (h : own_B c) : ¬ ((255 : Int32) < c) := by
  have h2 : (255 : Int32).toInt = 255 := rfl
  rw [Int32.lt_iff_toInt_lt]; have := h.2; omega
theorem own_Bc {c : Int32} (h : own_B c) : nar .char c = c := by
  show c.toUInt32.toUInt16.toUInt32.toInt32 = c
  have h2 := c_i2c c
  rw [← Int32.toInt_inj]; have := h.1; have := h.2; omega
theorem own_i8 {c d : Int32} (hc : own_B c) (hd : own_B d) : (c.toInt8.toInt32 = d.toInt8.toInt32) ↔ c = d := by
  constructor
  · intro h
    have h1 := c_i2b c
    have h2 := c_i2b d
    rw [← Int32.toInt_inj] at h ⊢
    have := hc.1; have := hc.2; have := hd.1; have := hd.2
    omega
  · intro h; rw [h]
theorem own_p (x : Int32) : ¬ ((x &&& (2147483647 : Int32)) < (0 : Int32)) := by
  have h0 : 0 ≤ (x &&& (2147483647 : Int32)).toInt := (c_and x 2147483647 (by decide)).1
  have h3 : (0 : Int32).toInt = 0 := rfl
  rw [Int32.lt_iff_toInt_lt]; omega
theorem own_pi {P : Prop} [Decidable P] {a b : Int32} (h1 : ¬ (a < (0 : Int32))) (h2 : ¬ (b < (0 : Int32))) : ¬ ((if P then a else b) < (0 : Int32)) := by split <;> assumption
theorem own_f1 {p q c d : Int32} (hc : own_B c) (hd : own_B d) : (if p = q ∧ c.toInt8.toInt32 = d.toInt8.toInt32 then (1 : Int32) else (0 : Int32)) = (if p = q then (if c = d then (1 : Int32) else (0 : Int32)) else (0 : Int32)) := by
  simp only [own_i8 hc hd]
  by_cases h1 : p = q <;> by_cases h2 : c = d <;> simp [h1, h2]
theorem own_g1 {p q c d : Int32} (hc : own_B c) (hd : own_B d) : (if q = p ∧ d.toInt8.toInt32 = c.toInt8.toInt32 then (1 : Int32) else (0 : Int32)) = (if p = q then (if c = d then (1 : Int32) else (0 : Int32)) else (0 : Int32)) := by
  rw [← own_f1 hc hd]
  by_cases h : q = p ∧ d.toInt8.toInt32 = c.toInt8.toInt32
  · rw [if_pos h, if_pos ⟨h.1.symm, h.2.symm⟩]
  · rw [if_neg h, if_neg (fun g => h ⟨g.1.symm, g.2.symm⟩)]
theorem own_f2 {p q c d c' d' : Int32} (hc : own_B c) (hd : own_B d) (hc' : own_B c') (hd' : own_B d') : (if p = q ∧ (c.toInt8.toInt32 = d.toInt8.toInt32 ∧ c'.toInt8.toInt32 = d'.toInt8.toInt32) then (1 : Int32) else (0 : Int32)) = (if p = q then (if c = d then (if c' = d' then (1 : Int32) else (0 : Int32)) else (0 : Int32)) else (0 : Int32)) := by
  simp only [own_i8 hc hd, own_i8 hc' hd']
  by_cases h1 : p = q <;> by_cases h2 : c = d <;> by_cases h3 : c' = d' <;> simp [h1, h2, h3]
theorem own_g2 {p q c d c' d' : Int32} (hc : own_B c) (hd : own_B d) (hc' : own_B c') (hd' : own_B d') : (if q = p ∧ (d.toInt8.toInt32 = c.toInt8.toInt32 ∧ d'.toInt8.toInt32 = c'.toInt8.toInt32) then (1 : Int32) else (0 : Int32)) = (if p = q then (if c = d then (if c' = d' then (1 : Int32) else (0 : Int32)) else (0 : Int32)) else (0 : Int32)) := by
  rw [← own_f2 hc hd hc' hd']
  by_cases h : q = p ∧ (d.toInt8.toInt32 = c.toInt8.toInt32 ∧ d'.toInt8.toInt32 = c'.toInt8.toInt32)
  · rw [if_pos h, if_pos ⟨h.1.symm, h.2.1.symm, h.2.2.symm⟩]
  · rw [if_neg h, if_neg (fun g => h ⟨g.1.symm, g.2.1.symm, g.2.2.symm⟩)]
theorem own_noInst {Z : State} {a0 : Array Value} {Cn Sn Kn : String} {n : Nat} (w : (Jvm.Cond.superclass Cn Sn).before a0 Z = true) (w0 : (Jvm.Cond.noSuperclass Sn).before a0 Z = true) (wi : (Jvm.Cond.instantiable Kn n).before a0 Z = true) (hn : Cn ≠ Kn) (hs : Sn ≠ Kn) : ∃ c t, Z.vm.findClass Cn = some c ∧ Z.vm.findClass Kn = some t ∧ Z.vm.assignable c t = false := by
  obtain ⟨t, k', g0, g2, g5, g7, -⟩ := Cond.instantiable_spec wi
  have g8 : k'.isInterface = false := by simp only [Bool.or_eq_false_iff] at g7; exact g7.1
  obtain ⟨c0, k0, h1, h2, h3, -, -⟩ := Cond.noSuperclass_spec w0
  have ne0 := ids_ne h1 g0 hs
  have n0 : NS Z Sn Kn := ⟨c0, t, h1, g0, fun fuel => by
    cases fuel with
    | zero => rfl
    | succ f => simp [Vm.isSubclassAux, ne0, h2, h3]⟩
  obtain ⟨c, t', h0, g0', n3⟩ := NS.step w n0 hn
  cases g0.symm.trans g0'
  obtain ⟨p, k, kp, -, h2', h3', h4, h5, -, h7⟩ := Cond.superclass_spec h0 w
  have ne := ids_ne h0 g0 hn
  refine ⟨c, t, h0, g0, ?_⟩
  show Z.vm.assignableAux (255 + 1) c t = false
  simp [Vm.assignableAux, ne, h2', g2, h5, g5, g8, Vm.isSubclass, n3]
theorem own_d5_0 : decode jdk_52_method_21_code 0 = .ok (.iconst 0, 1) := by decide +kernel
theorem own_d5_1 : decode jdk_52_method_21_code 1 = .ok (.istore 5, 2) := by decide +kernel
theorem own_d5_3 : decode jdk_52_method_21_code 3 = .ok (.iload 5, 2) := by decide +kernel
theorem own_d5_5 : decode jdk_52_method_21_code 5 = .ok (.iload 4, 2) := by decide +kernel
theorem own_d5_7 : decode jdk_52_method_21_code 7 = .ok (.if_icmp .ge 37, 3) := by decide +kernel
theorem own_d5_10 : decode jdk_52_method_21_code 10 = .ok (.aload_n 0, 1) := by decide +kernel
theorem own_d5_11 : decode jdk_52_method_21_code 11 = .ok (.iload_n 1, 1) := by decide +kernel
theorem own_d5_12 : decode jdk_52_method_21_code 12 = .ok (.caload, 1) := by decide +kernel
theorem own_d5_13 : decode jdk_52_method_21_code 13 = .ok (.istore 6, 2) := by decide +kernel
theorem own_d5_15 : decode jdk_52_method_21_code 15 = .ok (.iload 6, 2) := by decide +kernel
theorem own_d5_17 : decode jdk_52_method_21_code 17 = .ok (.sipush 255, 3) := by decide +kernel
theorem own_d5_20 : decode jdk_52_method_21_code 20 = .ok (.if_icmp .le 6, 3) := by decide +kernel
theorem own_d5_26 : decode jdk_52_method_21_code 26 = .ok (.aload_n 2, 1) := by decide +kernel
theorem own_d5_27 : decode jdk_52_method_21_code 27 = .ok (.iload_n 3, 1) := by decide +kernel
theorem own_d5_28 : decode jdk_52_method_21_code 28 = .ok (.iload 6, 2) := by decide +kernel
theorem own_d5_30 : decode jdk_52_method_21_code 30 = .ok (.i2b, 1) := by decide +kernel
theorem own_d5_31 : decode jdk_52_method_21_code 31 = .ok (.bastore, 1) := by decide +kernel
theorem own_d5_32 : decode jdk_52_method_21_code 32 = .ok (.iinc 1 1, 3) := by decide +kernel
theorem own_d5_35 : decode jdk_52_method_21_code 35 = .ok (.iinc 3 1, 3) := by decide +kernel
theorem own_d5_38 : decode jdk_52_method_21_code 38 = .ok (.iinc 5 1, 3) := by decide +kernel
theorem own_d5_41 : decode jdk_52_method_21_code 41 = .ok (.goto (-38), 3) := by decide +kernel
theorem own_d5_44 : decode jdk_52_method_21_code 44 = .ok (.iload 4, 2) := by decide +kernel
theorem own_d5_46 : decode jdk_52_method_21_code 46 = .ok (.ireturn, 1) := by decide +kernel
theorem own_pn0 : plainName "java/lang/StringUTF16" = true := by first | (simp [plainName, overriddenIn]; done) | decide +kernel
theorem own_ef5 (m : MethodId) (x0 : Addr) (x1 : Int32) (x2 : Addr) (x3 : Int32) (x4 : Int32) : entryFrame m #[(.ref x0), (.int x1), (.ref x2), (.int x3), (.int x4)] 7 = mkF m 0 #[.val (.ref x0), .val (.int x1), .val (.ref x2), .val (.int x3), .val (.int x4), .unset, .unset] [] := by first | (simp [entryFrame, mkF, argsToLocals, Value.category]; done) | rfl
def own_Q_own_cmp1 (Z : State) (sa : Addr) (db : Addr) (kc : ClassId) (kb : ClassId) (c1 : Int32) (h0 : Heap) (n0 : Nat) (v : Option Value) (h : Heap) (L : List Loc) : Prop := v = some (.int (1 : Int32)) ∧ Fr n0 L ∧ Keep h0 h [db] ∧ Arv Z h db kb .byte (1 : Int32) [(.int (c1.toInt8.toInt32))] (.int (0 : Int32))
set_option maxRecDepth 65536 in
set_option maxHeartbeats 40000000 in
theorem own_cmp1 (l : Launch) (Z : State) (a0 : Array Value) (hw : ∀ d ∈ tables_1, d.before a0 Z = true) (ws : List Jvm.Cond) (sa : Addr) (db : Addr) (kc : ClassId) (kb : ClassId) (c1 : Int32) (h0 : Heap) (n0 : Nat) (Z0 : n0 ≤ h0.size) (V : Arv Z h0 sa kc .char (1 : Int32) [(.int c1)] (.int (0 : Int32))) (VB : Arv Z h0 db kb .byte (1 : Int32) [(.int (0 : Int32))] (.int (0 : Int32))) (ne1 : sa ≠ db) (g : n0 ≤ db) (hc1 : ¬ ((255 : Int32) < c1)) :
    MetFree l (⟨"java/lang/StringUTF16", "compress", "([CI[BII)I"⟩ : MethodName) (head1 (Jvm.Cond.code (⟨"java/lang/StringUTF16", "compress", "([CI[BII)I"⟩ : MethodName) jdk_52_method_21_code 7 (some .int) :: ws) ({ frames := 0, cells := 0, slots := 0, locals := 0 } : Room)) (fun as_ U => as_ = #[(.ref sa), (.int (0 : Int32)), (.ref db), (.int (0 : Int32)), (.int (1 : Int32))] ∧ Z.Warmed39 U.vm ∧ U.heap = h0) (fun _ _ _ _ _ => True) (fun _ U o U' => ∃ v L, o = .returned v ∧ own_Q_own_cmp1 Z sa db kc kb c1 h0 n0 v U'.heap L ∧ FrameEnd U o U' L ({ frames := 0, cells := 0, slots := 0, locals := 0 } : Room).cells ({ frames := 0, cells := 0, slots := 0, locals := 0 } : Room).slots) := by
  refine MetFree.of_bodySF (plainFor_of_name own_pn0) hisR ?_
  intro p e s m args below meth c s₁ Bd hml0 hP hK
  obtain ⟨rfl, hZ, hh⟩ := hP
  have hx := Bd.exec
  have hby := Bd.bytes
  have hml : c.maxLocals = 7 := hml0
  have hown : s.vm.findClass "java/lang/StringUTF16" = some m.cls := findClass_of_methodNamed Bd.named
  have hnm := (name_of_methodNamed Bd.named Bd.method).1
  have X0 : Stand p l e ({ frames := 0, cells := 0, slots := 0, locals := 0 } : Room) s m #[(.ref sa), (.int (0 : Int32)), (.ref db), (.int (0 : Int32)), (.int (1 : Int32))] below meth c s₁ [] 0 0 := Stand.of_body Bd
  have e0 : s₁.heap = h0 := by rw [← hh, Bd.state]; rfl
  have N0 := Fr.nil n0
  have pre0 : ∀ t, Steps p.tables e below (s₁.setTop (mkF m 0 #[.val (.ref sa), .val (.int (0 : Int32)), .val (.ref db), .val (.int (0 : Int32)), .val (.int (1 : Int32)), .unset, .unset] [])) t → Steps p.tables e below (s₁.setTop (entryFrame m #[(.ref sa), (.int (0 : Int32)), (.ref db), (.int (0 : Int32)), (.int (1 : Int32))] 7)) t := fun t k => castTop (own_ef5 m sa (0 : Int32) db (0 : Int32) (1 : Int32)) k
  have KP := Keep.refl h0 ([db] : List Addr)
  obtain ⟨cl1, Ar1, q1, S1, M1, H1, G1⟩ := id V
  have hin1 : ¬ ((0 : Int32) < 0 ∨ cl1.slots.size ≤ ((0 : Int32)).toNatClampNeg) := inb_of S1 ⟨by decide, by decide⟩
  obtain ⟨cl2, Ar2, q2, S2, M2, H2, G2⟩ := id VB
  have hin2 : ¬ ((0 : Int32) < 0 ∨ cl2.slots.size ≤ ((0 : Int32)).toNatClampNeg) := inb_of S2 ⟨by decide, by decide⟩
  obtain ⟨T3, h3, X3, e3, W3, st3⟩ := stB X0 hx hZ e0 Ar2 (j := (0 : Int32)) hin2 (g := (mkF m 31 #[.val (.ref sa), .val (.int (0 : Int32)), .val (.ref db), .val (.int (0 : Int32)), .val (.int (1 : Int32)), .val (.int (0 : Int32)), .val (.int c1)] [(.int (c1.toInt8.toInt32)), (.int (0 : Int32)), (.ref db)])) rfl rfl (hb hby own_d5_31)
  have V := V.other W3 ne1
  have Z4 : n0 ≤ h3.size := Nat.le_trans Z0 (Keep.of_wr W3).1
  have KP := KP.wr W3 (Or.inl (List.mem_of_getElem? (i := 0) rfl))
  have VB := Arv.set Ar2 q2 S2 M2 H2 G2 (fits_nar_byte _) W3 0 rfl (Nat.le_of_ble_eq_true rfl)
  have VB : Arv Z h3 db kb .byte (1 : Int32) [(.int (c1.toInt8.toInt32))] (.int (0 : Int32)) := by have q := VB; simp only [own_b8, List.set] at q; exact q
  have N3 := Fr.snoc X3 N0 g
  obtain ⟨fs, hr, hrun, hended, hW, hsame⟩ := X3.leave (v := some (.int (1 : Int32))) (fun h => by rw [Bd.returns] at h; cases h)
  refine ⟨_, _, pre0 _ ?_, hrun, hended, _, _, rfl, ?_, ⟨_, rfl⟩, hW, hsame.mono (by decide) (by decide)⟩
  · show Steps p.tables e below (s₁.setTop (mkF m 0 #[.val (.ref sa), .val (.int (0 : Int32)), .val (.ref db), .val (.int (0 : Int32)), .val (.int (1 : Int32)), .unset, .unset] [])) _
    refine XS.iconst X0.here hx rfl (hb hby own_d5_0) ?_
    show Steps p.tables e below (s₁.setTop (mkF m 1 #[.val (.ref sa), .val (.int (0 : Int32)), .val (.ref db), .val (.int (0 : Int32)), .val (.int (1 : Int32)), .unset, .unset] [(.int (0 : Int32))])) _
    refine XS.istore X0.here hx rfl (hb hby own_d5_1) rfl (l' := #[.val (.ref sa), .val (.int (0 : Int32)), .val (.ref db), .val (.int (0 : Int32)), .val (.int (1 : Int32)), .val (.int (0 : Int32)), .unset]) rfl ?_
    show Steps p.tables e below (s₁.setTop (mkF m 3 #[.val (.ref sa), .val (.int (0 : Int32)), .val (.ref db), .val (.int (0 : Int32)), .val (.int (1 : Int32)), .val (.int (0 : Int32)), .unset] [])) _
    refine XS.iload X0.here hx rfl (hb hby own_d5_3) rfl ?_
    show Steps p.tables e below (s₁.setTop (mkF m 5 #[.val (.ref sa), .val (.int (0 : Int32)), .val (.ref db), .val (.int (0 : Int32)), .val (.int (1 : Int32)), .val (.int (0 : Int32)), .unset] [(.int (0 : Int32))])) _
    refine XS.iload X0.here hx rfl (hb hby own_d5_5) rfl ?_
    show Steps p.tables e below (s₁.setTop (mkF m 7 #[.val (.ref sa), .val (.int (0 : Int32)), .val (.ref db), .val (.int (0 : Int32)), .val (.int (1 : Int32)), .val (.int (0 : Int32)), .unset] [(.int (1 : Int32)), (.int (0 : Int32))])) _
    refine XS.icmpNo X0.here hx rfl (hb hby own_d5_7) rfl (tlt (by decide : (0 : Int32) < (1 : Int32))).2.1 ?_
    show Steps p.tables e below (s₁.setTop (mkF m 10 #[.val (.ref sa), .val (.int (0 : Int32)), .val (.ref db), .val (.int (0 : Int32)), .val (.int (1 : Int32)), .val (.int (0 : Int32)), .unset] [])) _
    refine XS.aloadN X0.here hx rfl (hb hby own_d5_10) rfl rfl ?_
    show Steps p.tables e below (s₁.setTop (mkF m 11 #[.val (.ref sa), .val (.int (0 : Int32)), .val (.ref db), .val (.int (0 : Int32)), .val (.int (1 : Int32)), .val (.int (0 : Int32)), .unset] [(.ref sa)])) _
    refine XS.iloadN X0.here hx rfl (hb hby own_d5_11) rfl ?_
    show Steps p.tables e below (s₁.setTop (mkF m 12 #[.val (.ref sa), .val (.int (0 : Int32)), .val (.ref db), .val (.int (0 : Int32)), .val (.int (1 : Int32)), .val (.int (0 : Int32)), .unset] [(.int (0 : Int32)), (.ref sa)])) _
    refine X0.caload hx (j := (0 : Int32)) (v := (.int c1)) (by rw [e0]; exact Ar1.1) (State.isArrayOf_alike hZ.alike Ar1.2.1) Ar1.2.2 hin1 (H1.at hin1 rfl) (g := (mkF m 12 #[.val (.ref sa), .val (.int (0 : Int32)), .val (.ref db), .val (.int (0 : Int32)), .val (.int (1 : Int32)), .val (.int (0 : Int32)), .unset] [(.int (0 : Int32)), (.ref sa)])) rfl rfl (hb hby own_d5_12) _ ?_
    show Steps p.tables e below (s₁.setTop (mkF m 13 #[.val (.ref sa), .val (.int (0 : Int32)), .val (.ref db), .val (.int (0 : Int32)), .val (.int (1 : Int32)), .val (.int (0 : Int32)), .unset] [(.int c1)])) _
    refine XS.istore X0.here hx rfl (hb hby own_d5_13) rfl (l' := #[.val (.ref sa), .val (.int (0 : Int32)), .val (.ref db), .val (.int (0 : Int32)), .val (.int (1 : Int32)), .val (.int (0 : Int32)), .val (.int c1)]) rfl ?_
    show Steps p.tables e below (s₁.setTop (mkF m 15 #[.val (.ref sa), .val (.int (0 : Int32)), .val (.ref db), .val (.int (0 : Int32)), .val (.int (1 : Int32)), .val (.int (0 : Int32)), .val (.int c1)] [])) _
    refine XS.iload X0.here hx rfl (hb hby own_d5_15) rfl ?_
    show Steps p.tables e below (s₁.setTop (mkF m 17 #[.val (.ref sa), .val (.int (0 : Int32)), .val (.ref db), .val (.int (0 : Int32)), .val (.int (1 : Int32)), .val (.int (0 : Int32)), .val (.int c1)] [(.int c1)])) _
    refine XS.sipush X0.here hx rfl (hb hby own_d5_17) ?_
    show Steps p.tables e below (s₁.setTop (mkF m 20 #[.val (.ref sa), .val (.int (0 : Int32)), .val (.ref db), .val (.int (0 : Int32)), .val (.int (1 : Int32)), .val (.int (0 : Int32)), .val (.int c1)] [(.int (255 : Int32)), (.int c1)])) _
    refine XS.icmpYes X0.here hx rfl (pc0 := 20) (pc' := 26) rfl (hb hby own_d5_20) rfl (flt hc1).2.2.2 (by decide) (by decide) ?_
    show Steps p.tables e below (s₁.setTop (mkF m 26 #[.val (.ref sa), .val (.int (0 : Int32)), .val (.ref db), .val (.int (0 : Int32)), .val (.int (1 : Int32)), .val (.int (0 : Int32)), .val (.int c1)] [])) _
    refine XS.aloadN X0.here hx rfl (hb hby own_d5_26) rfl rfl ?_
    show Steps p.tables e below (s₁.setTop (mkF m 27 #[.val (.ref sa), .val (.int (0 : Int32)), .val (.ref db), .val (.int (0 : Int32)), .val (.int (1 : Int32)), .val (.int (0 : Int32)), .val (.int c1)] [(.ref db)])) _
    refine XS.iloadN X0.here hx rfl (hb hby own_d5_27) rfl ?_
    show Steps p.tables e below (s₁.setTop (mkF m 28 #[.val (.ref sa), .val (.int (0 : Int32)), .val (.ref db), .val (.int (0 : Int32)), .val (.int (1 : Int32)), .val (.int (0 : Int32)), .val (.int c1)] [(.int (0 : Int32)), (.ref db)])) _
    refine XS.iload X0.here hx rfl (hb hby own_d5_28) rfl ?_
    show Steps p.tables e below (s₁.setTop (mkF m 30 #[.val (.ref sa), .val (.int (0 : Int32)), .val (.ref db), .val (.int (0 : Int32)), .val (.int (1 : Int32)), .val (.int (0 : Int32)), .val (.int c1)] [(.int c1), (.int (0 : Int32)), (.ref db)])) _
    refine XS.i2b X0.here hx rfl (hb hby own_d5_30) rfl ?_
    show Steps p.tables e below (s₁.setTop (mkF m 31 #[.val (.ref sa), .val (.int (0 : Int32)), .val (.ref db), .val (.int (0 : Int32)), .val (.int (1 : Int32)), .val (.int (0 : Int32)), .val (.int c1)] [(.int (c1.toInt8.toInt32)), (.int (0 : Int32)), (.ref db)])) _
    refine st3 _ ?_
    show Steps p.tables e below (T3.setTop (mkF m 32 #[.val (.ref sa), .val (.int (0 : Int32)), .val (.ref db), .val (.int (0 : Int32)), .val (.int (1 : Int32)), .val (.int (0 : Int32)), .val (.int c1)] [])) _
    refine XS.iinc X3.here hx rfl (hb hby own_d5_32) rfl (l' := #[.val (.ref sa), .val (.int (1 : Int32)), .val (.ref db), .val (.int (0 : Int32)), .val (.int (1 : Int32)), .val (.int (0 : Int32)), .val (.int c1)]) rfl ?_
    show Steps p.tables e below (T3.setTop (mkF m 35 #[.val (.ref sa), .val (.int (1 : Int32)), .val (.ref db), .val (.int (0 : Int32)), .val (.int (1 : Int32)), .val (.int (0 : Int32)), .val (.int c1)] [])) _
    refine XS.iinc X3.here hx rfl (hb hby own_d5_35) rfl (l' := #[.val (.ref sa), .val (.int (1 : Int32)), .val (.ref db), .val (.int (1 : Int32)), .val (.int (1 : Int32)), .val (.int (0 : Int32)), .val (.int c1)]) rfl ?_
    show Steps p.tables e below (T3.setTop (mkF m 38 #[.val (.ref sa), .val (.int (1 : Int32)), .val (.ref db), .val (.int (1 : Int32)), .val (.int (1 : Int32)), .val (.int (0 : Int32)), .val (.int c1)] [])) _
    refine XS.iinc X3.here hx rfl (hb hby own_d5_38) rfl (l' := #[.val (.ref sa), .val (.int (1 : Int32)), .val (.ref db), .val (.int (1 : Int32)), .val (.int (1 : Int32)), .val (.int (1 : Int32)), .val (.int c1)]) rfl ?_
    show Steps p.tables e below (T3.setTop (mkF m 41 #[.val (.ref sa), .val (.int (1 : Int32)), .val (.ref db), .val (.int (1 : Int32)), .val (.int (1 : Int32)), .val (.int (1 : Int32)), .val (.int c1)] [])) _
    refine XS.goto X3.here hx rfl (pc0 := 41) (pc' := 3) rfl (hb hby own_d5_41) (by decide) (by decide) ?_
    show Steps p.tables e below (T3.setTop (mkF m 3 #[.val (.ref sa), .val (.int (1 : Int32)), .val (.ref db), .val (.int (1 : Int32)), .val (.int (1 : Int32)), .val (.int (1 : Int32)), .val (.int c1)] [])) _
    refine XS.iload X3.here hx rfl (hb hby own_d5_3) rfl ?_
    show Steps p.tables e below (T3.setTop (mkF m 5 #[.val (.ref sa), .val (.int (1 : Int32)), .val (.ref db), .val (.int (1 : Int32)), .val (.int (1 : Int32)), .val (.int (1 : Int32)), .val (.int c1)] [(.int (1 : Int32))])) _
    refine XS.iload X3.here hx rfl (hb hby own_d5_5) rfl ?_
    show Steps p.tables e below (T3.setTop (mkF m 7 #[.val (.ref sa), .val (.int (1 : Int32)), .val (.ref db), .val (.int (1 : Int32)), .val (.int (1 : Int32)), .val (.int (1 : Int32)), .val (.int c1)] [(.int (1 : Int32)), (.int (1 : Int32))])) _
    refine XS.icmpYes X3.here hx rfl (pc0 := 7) (pc' := 44) rfl (hb hby own_d5_7) rfl (flt (by decide : ¬ ((1 : Int32) < (1 : Int32)))).2.1 (by decide) (by decide) ?_
    show Steps p.tables e below (T3.setTop (mkF m 44 #[.val (.ref sa), .val (.int (1 : Int32)), .val (.ref db), .val (.int (1 : Int32)), .val (.int (1 : Int32)), .val (.int (1 : Int32)), .val (.int c1)] [])) _
    refine XS.iload X3.here hx rfl (hb hby own_d5_44) rfl ?_
    show Steps p.tables e below (T3.setTop (mkF m 46 #[.val (.ref sa), .val (.int (1 : Int32)), .val (.ref db), .val (.int (1 : Int32)), .val (.int (1 : Int32)), .val (.int (1 : Int32)), .val (.int c1)] [(.int (1 : Int32))])) _
    exact retI X3 hx Bd.returns (hb hby own_d5_46) hr
  · show own_Q_own_cmp1 Z sa db kc kb c1 h0 n0 _ T3.heap _
    rw [e3]
    exact ⟨rfl, N3, KP, VB⟩
theorem own_pd0 : parseMethodDescriptor "([CI[BII)I" = some ⟨[(.array .char), .int, (.array .byte), .int, .int], some .int⟩ := by decide +kernel
theorem own_d4_0 : decode jdk_52_method_16_code 0 = .ok (.iload_n 2, 1) := by decide +kernel
theorem own_d4_1 : decode jdk_52_method_16_code 1 = .ok (.newarray .byte, 2) := by decide +kernel
theorem own_d4_3 : decode jdk_52_method_16_code 3 = .ok (.astore_n 3, 1) := by decide +kernel
theorem own_d4_4 : decode jdk_52_method_16_code 4 = .ok (.aload_n 0, 1) := by decide +kernel
theorem own_d4_5 : decode jdk_52_method_16_code 5 = .ok (.iload_n 1, 1) := by decide +kernel
theorem own_d4_6 : decode jdk_52_method_16_code 6 = .ok (.aload_n 3, 1) := by decide +kernel
theorem own_d4_7 : decode jdk_52_method_16_code 7 = .ok (.iconst 0, 1) := by decide +kernel
theorem own_d4_8 : decode jdk_52_method_16_code 8 = .ok (.iload_n 2, 1) := by decide +kernel
theorem own_d4_9 : decode jdk_52_method_16_code 9 = .ok (.invokestatic 115, 3) := by decide +kernel
theorem own_d4_12 : decode jdk_52_method_16_code 12 = .ok (.istore 4, 2) := by decide +kernel
theorem own_d4_14 : decode jdk_52_method_16_code 14 = .ok (.iload 4, 2) := by decide +kernel
theorem own_d4_16 : decode jdk_52_method_16_code 16 = .ok (.iload_n 2, 1) := by decide +kernel
theorem own_d4_17 : decode jdk_52_method_16_code 17 = .ok (.if_icmp .eq 40, 3) := by decide +kernel
theorem own_d4_57 : decode jdk_52_method_16_code 57 = .ok (.aload_n 3, 1) := by decide +kernel
theorem own_d4_58 : decode jdk_52_method_16_code 58 = .ok (.areturn, 1) := by decide +kernel
theorem own_ef4 (m : MethodId) (x0 : Addr) (x1 : Int32) (x2 : Int32) : entryFrame m #[(.ref x0), (.int x1), (.int x2)] 6 = mkF m 0 #[.val (.ref x0), .val (.int x1), .val (.int x2), .unset, .unset, .unset] [] := by first | (simp [entryFrame, mkF, argsToLocals, Value.category]; done) | rfl
def own_Q_own_cmr1 (Z : State) (sa : Addr) (kc : ClassId) (c1 : Int32) (h0 : Heap) (n0 : Nat) (v : Option Value) (h : Heap) (L : List Loc) : Prop := ∃ (b : Addr) (kb : ClassId), v = some (.ref b) ∧ Fr n0 L ∧ Keep h0 h [] ∧ Arv Z h b kb .byte (1 : Int32) [(.int (c1.toInt8.toInt32))] (.int (0 : Int32)) ∧ h0.size ≤ b
set_option maxRecDepth 65536 in
set_option maxHeartbeats 40000000 in
theorem own_cmr1 (l : Launch) (Z : State) (a0 : Array Value) (hw : ∀ d ∈ tables_1, d.before a0 Z = true) (ws : List Jvm.Cond) (sa : Addr) (kc : ClassId) (c1 : Int32) (h0 : Heap) (n0 : Nat) (Z0 : n0 ≤ h0.size) (V : Arv Z h0 sa kc .char (1 : Int32) [(.int c1)] (.int (0 : Int32))) (hc1 : ¬ ((255 : Int32) < c1)) :
    MetFree l (⟨"java/lang/StringUTF16", "compress", "([CII)[B"⟩ : MethodName) (head1 (Jvm.Cond.code (⟨"java/lang/StringUTF16", "compress", "([CII)[B"⟩ : MethodName) jdk_52_method_16_code 6 (some (.array .byte)) :: ws) ({ frames := 1, cells := 1, slots := 1, locals := 18 } : Room)) (fun as_ U => as_ = #[(.ref sa), (.int (0 : Int32)), (.int (1 : Int32))] ∧ Z.Warmed39 U.vm ∧ U.heap = h0) (fun _ _ _ _ _ => True) (fun _ U o U' => ∃ v L, o = .returned v ∧ own_Q_own_cmr1 Z sa kc c1 h0 n0 v U'.heap L ∧ FrameEnd U o U' L ({ frames := 1, cells := 1, slots := 1, locals := 18 } : Room).cells ({ frames := 1, cells := 1, slots := 1, locals := 18 } : Room).slots) := by
  refine MetFree.of_bodySF (plainFor_of_name own_pn0) hisR ?_
  intro p e s m args below meth c s₁ Bd hml0 hP hK
  obtain ⟨rfl, hZ, hh⟩ := hP
  have hx := Bd.exec
  have hby := Bd.bytes
  have hml : c.maxLocals = 6 := hml0
  have hown : s.vm.findClass "java/lang/StringUTF16" = some m.cls := findClass_of_methodNamed Bd.named
  have hnm := (name_of_methodNamed Bd.named Bd.method).1
  have X0 : Stand p l e ({ frames := 1, cells := 1, slots := 1, locals := 18 } : Room) s m #[(.ref sa), (.int (0 : Int32)), (.int (1 : Int32))] below meth c s₁ [] 0 0 := Stand.of_body Bd
  have e0 : s₁.heap = h0 := by rw [← hh, Bd.state]; rfl
  have N0 := Fr.nil n0
  have pre0 : ∀ t, Steps p.tables e below (s₁.setTop (mkF m 0 #[.val (.ref sa), .val (.int (0 : Int32)), .val (.int (1 : Int32)), .unset, .unset, .unset] [])) t → Steps p.tables e below (s₁.setTop (entryFrame m #[(.ref sa), (.int (0 : Int32)), (.int (1 : Int32))] 6)) t := fun t k => castTop (own_ef4 m sa (0 : Int32) (1 : Int32)) k
  have KP := Keep.refl h0 ([] : List Addr)
  obtain ⟨T1, h1, k1, X1, e1, E1, A1, st1⟩ := newP X0 hx hZ (hw _ (List.mem_of_getElem? (i := 20) rfl)) e0 (g := (mkF m 1 #[.val (.ref sa), .val (.int (0 : Int32)), .val (.int (1 : Int32)), .unset, .unset, .unset] [(.int (1 : Int32))])) rfl (hb hby own_d4_1) rfl (by decide) (cap := 1) (by decide) (by decide) (by decide) (by decide)
  obtain ⟨b1, g1⟩ : ∃ z, z = h0.size := ⟨_, rfl⟩
  rw [← g1] at A1 st1
  have g_b1 : n0 ≤ b1 := Nat.le_trans Z0 (Nat.le_of_eq g1.symm)
  have sz_b1 : h0.size ≤ b1 := Nat.le_trans KP.1 (Nat.le_of_eq g1.symm)
  have ne_sa_b1 : sa ≠ b1 := Nat.ne_of_lt (Nat.lt_of_lt_of_le V.lt (Nat.le_of_eq g1.symm))
  have V := V.ext E1
  have Z2 : n0 ≤ h1.size := Nat.le_trans Z0 E1.1
  have KP := KP.ext E1
  have V_b1 : Arv Z h1 b1 k1 .byte (1 : Int32) [(.int (0 : Int32))] (.int (0 : Int32)) := (Arv.new A1 (by decide)).pad (pad_rep [] (.int (0 : Int32)) 1)
  obtain ⟨_, _, ⟨T3, L3, k3, n3⟩, -, X3, ⟨Lc3, hQ3, l3, y3, z3⟩, st3⟩ := Jvm.LawKit.callS X1 hx (y := (⟨"java/lang/StringUTF16", "compress", "([CI[BII)I"⟩ : MethodName)) hown (mvT hZ (hw _ (List.mem_of_getElem? (i := 21) rfl))) (mvT hZ (hw _ (List.mem_of_getElem? (i := 22) rfl))) (mvT hZ (hw _ (List.mem_of_getElem? (i := 18) rfl))) (mvT hZ (hw _ (List.mem_of_getElem? (i := 23) rfl))) (by decide) (backOf (W := 0) (own_cmp1 l Z a0 hw [] sa b1 kc k1 c1 h1 n0 Z2 V V_b1 ne_sa_b1 g_b1 hc1) hZ (hw _ (List.mem_of_getElem? (i := 23) rfl)) (hw _ (List.mem_of_getElem? (i := 18) rfl)) (by decide) (by decide)) (g := (mkF m 9 #[.val (.ref sa), .val (.int (0 : Int32)), .val (.int (1 : Int32)), .val (.ref b1), .unset, .unset] [(.int (1 : Int32)), (.int (0 : Int32)), (.ref b1), (.int (0 : Int32)), (.ref sa)])) rfl (by rw [hml]; rfl) (argsL := [(.ref sa), (.int (0 : Int32)), (.ref b1), (.int (0 : Int32)), (.int (1 : Int32))]) (rest := []) (lenOf own_pd0 rfl) rfl (by show 2 * 0 + _ ≤ _; exact Nat.le_of_eq rfl) (hb hby own_d4_9) (fun _ _ => ⟨rfl, e1, (by decide : 1 + 0 ≤ _), (by decide : 1 + 0 ≤ _)⟩)
  dsimp only [Pt.U, Pt.locs, Pt.cells, Pt.slots] at X3 l3 y3 z3 st3 hQ3
  subst l3 y3 z3
  obtain ⟨rfl, N3q, K3, VB3⟩ := hQ3
  have N3 := Fr.app N0 N3q
  have V := V.keep K3 (ninS ne_sa_b1 nin0)
  have Z4 := Nat.le_trans Z2 K3.1
  have KP := KP.trans K3 (allS (Or.inr sz_b1) all0)
  obtain ⟨fs, hr, hrun, hended, hW, hsame⟩ := X3.leave (v := some (.ref b1)) (fun h => by rw [Bd.returns] at h; cases h)
  refine ⟨_, _, pre0 _ ?_, hrun, hended, _, _, rfl, ?_, ⟨_, rfl⟩, hW, hsame.mono (by decide) (by decide)⟩
  · show Steps p.tables e below (s₁.setTop (mkF m 0 #[.val (.ref sa), .val (.int (0 : Int32)), .val (.int (1 : Int32)), .unset, .unset, .unset] [])) _
    refine XS.iloadN X0.here hx rfl (hb hby own_d4_0) rfl ?_
    show Steps p.tables e below (s₁.setTop (mkF m 1 #[.val (.ref sa), .val (.int (0 : Int32)), .val (.int (1 : Int32)), .unset, .unset, .unset] [(.int (1 : Int32))])) _
    refine st1 _ ?_
    show Steps p.tables e below (T1.setTop (mkF m 3 #[.val (.ref sa), .val (.int (0 : Int32)), .val (.int (1 : Int32)), .unset, .unset, .unset] [(.ref b1)])) _
    refine XS.astoreN X1.here hx rfl (hb hby own_d4_3) rfl rfl (l' := #[.val (.ref sa), .val (.int (0 : Int32)), .val (.int (1 : Int32)), .val (.ref b1), .unset, .unset]) rfl ?_
    show Steps p.tables e below (T1.setTop (mkF m 4 #[.val (.ref sa), .val (.int (0 : Int32)), .val (.int (1 : Int32)), .val (.ref b1), .unset, .unset] [])) _
    refine XS.aloadN X1.here hx rfl (hb hby own_d4_4) rfl rfl ?_
    show Steps p.tables e below (T1.setTop (mkF m 5 #[.val (.ref sa), .val (.int (0 : Int32)), .val (.int (1 : Int32)), .val (.ref b1), .unset, .unset] [(.ref sa)])) _
    refine XS.iloadN X1.here hx rfl (hb hby own_d4_5) rfl ?_
    show Steps p.tables e below (T1.setTop (mkF m 6 #[.val (.ref sa), .val (.int (0 : Int32)), .val (.int (1 : Int32)), .val (.ref b1), .unset, .unset] [(.int (0 : Int32)), (.ref sa)])) _
    refine XS.aloadN X1.here hx rfl (hb hby own_d4_6) rfl rfl ?_
    show Steps p.tables e below (T1.setTop (mkF m 7 #[.val (.ref sa), .val (.int (0 : Int32)), .val (.int (1 : Int32)), .val (.ref b1), .unset, .unset] [(.ref b1), (.int (0 : Int32)), (.ref sa)])) _
    refine XS.iconst X1.here hx rfl (hb hby own_d4_7) ?_
    show Steps p.tables e below (T1.setTop (mkF m 8 #[.val (.ref sa), .val (.int (0 : Int32)), .val (.int (1 : Int32)), .val (.ref b1), .unset, .unset] [(.int (0 : Int32)), (.ref b1), (.int (0 : Int32)), (.ref sa)])) _
    refine XS.iloadN X1.here hx rfl (hb hby own_d4_8) rfl ?_
    show Steps p.tables e below (T1.setTop (mkF m 9 #[.val (.ref sa), .val (.int (0 : Int32)), .val (.int (1 : Int32)), .val (.ref b1), .unset, .unset] [(.int (1 : Int32)), (.int (0 : Int32)), (.ref b1), (.int (0 : Int32)), (.ref sa)])) _
    refine st3 _ ?_
    show Steps p.tables e below (T3.setTop (mkF m 12 #[.val (.ref sa), .val (.int (0 : Int32)), .val (.int (1 : Int32)), .val (.ref b1), .unset, .unset] [(.int (1 : Int32))])) _
    refine XS.istore X3.here hx rfl (hb hby own_d4_12) rfl (l' := #[.val (.ref sa), .val (.int (0 : Int32)), .val (.int (1 : Int32)), .val (.ref b1), .val (.int (1 : Int32)), .unset]) rfl ?_
    show Steps p.tables e below (T3.setTop (mkF m 14 #[.val (.ref sa), .val (.int (0 : Int32)), .val (.int (1 : Int32)), .val (.ref b1), .val (.int (1 : Int32)), .unset] [])) _
    refine XS.iload X3.here hx rfl (hb hby own_d4_14) rfl ?_
    show Steps p.tables e below (T3.setTop (mkF m 16 #[.val (.ref sa), .val (.int (0 : Int32)), .val (.int (1 : Int32)), .val (.ref b1), .val (.int (1 : Int32)), .unset] [(.int (1 : Int32))])) _
    refine XS.iloadN X3.here hx rfl (hb hby own_d4_16) rfl ?_
    show Steps p.tables e below (T3.setTop (mkF m 17 #[.val (.ref sa), .val (.int (0 : Int32)), .val (.int (1 : Int32)), .val (.ref b1), .val (.int (1 : Int32)), .unset] [(.int (1 : Int32)), (.int (1 : Int32))])) _
    refine XS.icmpYes X3.here hx rfl (pc0 := 17) (pc' := 57) rfl (hb hby own_d4_17) rfl (teq (by decide : (1 : Int32) = (1 : Int32))).1 (by decide) (by decide) ?_
    show Steps p.tables e below (T3.setTop (mkF m 57 #[.val (.ref sa), .val (.int (0 : Int32)), .val (.int (1 : Int32)), .val (.ref b1), .val (.int (1 : Int32)), .unset] [])) _
    refine XS.aloadN X3.here hx rfl (hb hby own_d4_57) rfl rfl ?_
    show Steps p.tables e below (T3.setTop (mkF m 58 #[.val (.ref sa), .val (.int (0 : Int32)), .val (.int (1 : Int32)), .val (.ref b1), .val (.int (1 : Int32)), .unset] [(.ref b1)])) _
    exact retOut X3 hx (t := (.array .byte)) Bd.returns rfl (Or.inr (Or.inr (Or.inr (Or.inr ⟨rfl, rfl, rfl⟩)))) (hb hby own_d4_58) hr
  · show own_Q_own_cmr1 Z sa kc c1 h0 n0 _ T3.heap _
    exact ⟨b1, _, rfl, N3, KP, VB3, sz_b1⟩
theorem own_d6_0 : decode jdk_52_method_15_code 0 = .ok (.iload_n 1, 1) := by decide +kernel
theorem own_d6_1 : decode jdk_52_method_15_code 1 = .ok (.aload_n 0, 1) := by decide +kernel
theorem own_d6_2 : decode jdk_52_method_15_code 2 = .ok (.arraylength, 1) := by decide +kernel
theorem own_d6_3 : decode jdk_52_method_15_code 3 = .ok (.isub, 1) := by decide +kernel
theorem own_d6_4 : decode jdk_52_method_15_code 4 = .ok (.bipush 31, 2) := by decide +kernel
theorem own_d6_6 : decode jdk_52_method_15_code 6 = .ok (.iushr, 1) := by decide +kernel
theorem own_d6_7 : decode jdk_52_method_15_code 7 = .ok (.i2b, 1) := by decide +kernel
theorem own_d6_8 : decode jdk_52_method_15_code 8 = .ok (.ireturn, 1) := by decide +kernel
theorem own_ef6 (m : MethodId) (x0 : Addr) (x1 : Int32) : entryFrame m #[(.ref x0), (.int x1)] 2 = mkF m 0 #[.val (.ref x0), .val (.int x1)] [] := by first | (simp [entryFrame, mkF, argsToLocals, Value.category]; done) | rfl
def own_Q_own_cod1 (Z : State) (db : Addr) (kb : ClassId) (c1 : Int32) (h0 : Heap) (n0 : Nat) (v : Option Value) (h : Heap) (L : List Loc) : Prop := v = some (.int (0 : Int32)) ∧ Fr n0 L ∧ h = h0
set_option maxRecDepth 65536 in
set_option maxHeartbeats 40000000 in
theorem own_cod1 (l : Launch) (Z : State) (a0 : Array Value) (hw : ∀ d ∈ tables_1, d.before a0 Z = true) (ws : List Jvm.Cond) (db : Addr) (kb : ClassId) (c1 : Int32) (h0 : Heap) (n0 : Nat) (Z0 : n0 ≤ h0.size) (VB : Arv Z h0 db kb .byte (1 : Int32) [(.int (c1.toInt8.toInt32))] (.int (0 : Int32))) :
    MetFree l (⟨"java/lang/StringUTF16", "coderFromArrayLen", "([BI)B"⟩ : MethodName) (head1 (Jvm.Cond.code (⟨"java/lang/StringUTF16", "coderFromArrayLen", "([BI)B"⟩ : MethodName) jdk_52_method_15_code 2 (some .byte) :: ws) ({ frames := 0, cells := 0, slots := 0, locals := 0 } : Room)) (fun as_ U => as_ = #[(.ref db), (.int (1 : Int32))] ∧ Z.Warmed39 U.vm ∧ U.heap = h0) (fun _ _ _ _ _ => True) (fun _ U o U' => ∃ v L, o = .returned v ∧ own_Q_own_cod1 Z db kb c1 h0 n0 v U'.heap L ∧ FrameEnd U o U' L ({ frames := 0, cells := 0, slots := 0, locals := 0 } : Room).cells ({ frames := 0, cells := 0, slots := 0, locals := 0 } : Room).slots) := by
  refine MetFree.of_bodySF (plainFor_of_name own_pn0) hisR ?_
  intro p e s m args below meth c s₁ Bd hml0 hP hK
  obtain ⟨rfl, hZ, hh⟩ := hP
  have hx := Bd.exec
  have hby := Bd.bytes
  have hml : c.maxLocals = 2 := hml0
  have hown : s.vm.findClass "java/lang/StringUTF16" = some m.cls := findClass_of_methodNamed Bd.named
  have hnm := (name_of_methodNamed Bd.named Bd.method).1
  have X0 : Stand p l e ({ frames := 0, cells := 0, slots := 0, locals := 0 } : Room) s m #[(.ref db), (.int (1 : Int32))] below meth c s₁ [] 0 0 := Stand.of_body Bd
  have e0 : s₁.heap = h0 := by rw [← hh, Bd.state]; rfl
  have N0 := Fr.nil n0
  have pre0 : ∀ t, Steps p.tables e below (s₁.setTop (mkF m 0 #[.val (.ref db), .val (.int (1 : Int32))] [])) t → Steps p.tables e below (s₁.setTop (entryFrame m #[(.ref db), (.int (1 : Int32))] 2)) t := fun t k => castTop (own_ef6 m db (1 : Int32)) k
  obtain ⟨cl1, Ar1, q1, S1, M1, H1, G1⟩ := id VB
  obtain ⟨fs, hr, hrun, hended, hW, hsame⟩ := X0.leave (v := some (.int (nar .byte ((((0 : Int32).toUInt32 >>> ((31 : Int32) &&& 31).toUInt32).toInt32).toInt8.toInt32)))) (fun h => by rw [Bd.returns] at h; cases h)
  refine ⟨_, _, pre0 _ ?_, hrun, hended, _, _, rfl, ?_, ⟨_, rfl⟩, hW, hsame.mono (by decide) (by decide)⟩
  · show Steps p.tables e below (s₁.setTop (mkF m 0 #[.val (.ref db), .val (.int (1 : Int32))] [])) _
    refine XS.iloadN X0.here hx rfl (hb hby own_d6_0) rfl ?_
    show Steps p.tables e below (s₁.setTop (mkF m 1 #[.val (.ref db), .val (.int (1 : Int32))] [(.int (1 : Int32))])) _
    refine XS.aloadN X0.here hx rfl (hb hby own_d6_1) rfl rfl ?_
    show Steps p.tables e below (s₁.setTop (mkF m 2 #[.val (.ref db), .val (.int (1 : Int32))] [(.ref db), (.int (1 : Int32))])) _
    refine X0.arraylength hx (by rw [e0]; exact Ar1.1) (State.isArrayOf_alike hZ.alike Ar1.2.1) (g := (mkF m 2 #[.val (.ref db), .val (.int (1 : Int32))] [(.ref db), (.int (1 : Int32))])) rfl rfl (hb hby own_d6_2) _ ?_
    rw [len_of S1 M1]
    show Steps p.tables e below (s₁.setTop (mkF m 3 #[.val (.ref db), .val (.int (1 : Int32))] [(.int (1 : Int32)), (.int (1 : Int32))])) _
    refine XS.isub X0.here hx rfl (hb hby own_d6_3) rfl ?_
    show Steps p.tables e below (s₁.setTop (mkF m 4 #[.val (.ref db), .val (.int (1 : Int32))] [(.int (0 : Int32))])) _
    refine XS.bipush X0.here hx rfl (hb hby own_d6_4) ?_
    show Steps p.tables e below (s₁.setTop (mkF m 6 #[.val (.ref db), .val (.int (1 : Int32))] [(.int (31 : Int32)), (.int (0 : Int32))])) _
    refine XS.iushr X0.here hx rfl (hb hby own_d6_6) rfl ?_
    show Steps p.tables e below (s₁.setTop (mkF m 7 #[.val (.ref db), .val (.int (1 : Int32))] [(.int (((0 : Int32).toUInt32 >>> ((31 : Int32) &&& 31).toUInt32).toInt32))])) _
    refine XS.i2b X0.here hx rfl (hb hby own_d6_7) rfl ?_
    show Steps p.tables e below (s₁.setTop (mkF m 8 #[.val (.ref db), .val (.int (1 : Int32))] [(.int ((((0 : Int32).toUInt32 >>> ((31 : Int32) &&& 31).toUInt32).toInt32).toInt8.toInt32))])) _
    exact retN X0 hx (t := .byte) Bd.returns (by simp) (hb hby own_d6_8) hr
  · show own_Q_own_cod1 Z db kb c1 h0 n0 _ s₁.heap _
    rw [e0]
    exact ⟨own_iv (by decide), N0, rfl⟩
theorem own_pd1 : parseMethodDescriptor "([CII)[B" = some ⟨[(.array .char), .int, .int], some (.array .byte)⟩ := by decide +kernel
theorem own_pd2 : parseMethodDescriptor "([BI)B" = some ⟨[(.array .byte), .int], some .byte⟩ := by decide +kernel
theorem own_d2_0 : decode jdk_42_method_149_code 0 = .ok (.aload_n 0, 1) := by decide +kernel
theorem own_d2_1 : decode jdk_42_method_149_code 1 = .ok (.invokespecial 1, 3) := by decide +kernel
theorem own_d2_4 : decode jdk_42_method_149_code 4 = .ok (.iload_n 3, 1) := by decide +kernel
theorem own_d2_5 : decode jdk_42_method_149_code 5 = .ok (.ifCond .ne 22, 3) := by decide +kernel
theorem own_d2_27 : decode jdk_42_method_149_code 27 = .ok (.getstatic 38, 3) := by decide +kernel
theorem own_d2_30 : decode jdk_42_method_149_code 30 = .ok (.ifCond .eq 28, 3) := by decide +kernel
theorem own_d2_33 : decode jdk_42_method_149_code 33 = .ok (.aload_n 1, 1) := by decide +kernel
theorem own_d2_34 : decode jdk_42_method_149_code 34 = .ok (.iload_n 2, 1) := by decide +kernel
theorem own_d2_35 : decode jdk_42_method_149_code 35 = .ok (.iload_n 3, 1) := by decide +kernel
theorem own_d2_36 : decode jdk_42_method_149_code 36 = .ok (.invokestatic 177, 3) := by decide +kernel
theorem own_d2_39 : decode jdk_42_method_149_code 39 = .ok (.astore 5, 2) := by decide +kernel
theorem own_d2_41 : decode jdk_42_method_149_code 41 = .ok (.aload_n 0, 1) := by decide +kernel
theorem own_d2_42 : decode jdk_42_method_149_code 42 = .ok (.aload 5, 2) := by decide +kernel
theorem own_d2_44 : decode jdk_42_method_149_code 44 = .ok (.iload_n 3, 1) := by decide +kernel
theorem own_d2_45 : decode jdk_42_method_149_code 45 = .ok (.invokestatic 47, 3) := by decide +kernel
theorem own_d2_48 : decode jdk_42_method_149_code 48 = .ok (.putfield 15, 3) := by decide +kernel
theorem own_d2_51 : decode jdk_42_method_149_code 51 = .ok (.aload_n 0, 1) := by decide +kernel
theorem own_d2_52 : decode jdk_42_method_149_code 52 = .ok (.aload 5, 2) := by decide +kernel
theorem own_d2_54 : decode jdk_42_method_149_code 54 = .ok (.putfield 9, 3) := by decide +kernel
theorem own_d2_57 : decode jdk_42_method_149_code 57 = .ok (.return_, 1) := by decide +kernel
theorem own_pn1 : plainName "java/lang/String" = true := by first | (simp [plainName, overriddenIn]; done) | decide +kernel
theorem own_ef2_4 (m : MethodId) (x0 : Addr) (x1 : Addr) (x2 : Int32) (x3 : Int32) : entryFrame m #[(.ref x0), (.ref x1), (.int x2), (.int x3), .null] 6 = mkF m 0 #[.val (.ref x0), .val (.ref x1), .val (.int x2), .val (.int x3), .val .null, .unset] [] := by first | (simp [entryFrame, mkF, argsToLocals, Value.category]; done) | rfl
def own_Q_own_siv1 (Z : State) (a : Addr) (sa : Addr) (kc : ClassId) (cz : Int32) (c1 : Int32) (h0 : Heap) (n0 : Nat) (v : Option Value) (h : Heap) (L : List Loc) : Prop := ∃ (b : Addr) (kb : ClassId), v = none ∧ Fr n0 L ∧ Keep h0 h [a] ∧ Exa Z h a "java/lang/String" ∧ Fld Z h a "java/lang/String" "coder" "B" (.int (0 : Int32)) ∧ Fld Z h a "java/lang/String" "value" "[B" (.ref b) ∧ Arv Z h b kb .byte (1 : Int32) [(.int (c1.toInt8.toInt32))] (.int (0 : Int32)) ∧ h0.size ≤ b
set_option maxRecDepth 65536 in
set_option maxHeartbeats 40000000 in
theorem own_siv1 (l : Launch) (Z : State) (a0 : Array Value) (hw : ∀ d ∈ tables_1, d.before a0 Z = true) (ws : List Jvm.Cond) (a : Addr) (sa : Addr) (kc : ClassId) (cz : Int32) (c1 : Int32) (h0 : Heap) (n0 : Nat) (Z0 : n0 ≤ h0.size) (E : Exa Z h0 a "java/lang/String") (Fco : Fld Z h0 a "java/lang/String" "coder" "B" (.int (0 : Int32))) (Fva : Fld Z h0 a "java/lang/String" "value" "[B" .null) (g : n0 ≤ a) (V : Arv Z h0 sa kc .char (1 : Int32) [(.int c1)] (.int (0 : Int32))) (hc1 : ¬ ((255 : Int32) < c1)) (S : Sta Z h0 "java/lang/String" "COMPACT_STRINGS" "Z" (.int cz)) (hcz : ¬ (cz = (0 : Int32))) :
    MetFree l (⟨"java/lang/String", "<init>", "([CIILjava/lang/Void;)V"⟩ : MethodName) (head1 (Jvm.Cond.code (⟨"java/lang/String", "<init>", "([CIILjava/lang/Void;)V"⟩ : MethodName) jdk_42_method_149_code 6 none :: ws) ({ frames := 2, cells := 1, slots := 1, locals := 35 } : Room)) (fun as_ U => as_ = #[(.ref a), (.ref sa), (.int (0 : Int32)), (.int (1 : Int32)), .null] ∧ Z.Warmed39 U.vm ∧ U.heap = h0) (fun _ _ _ _ _ => True) (fun _ U o U' => ∃ v L, o = .returned v ∧ own_Q_own_siv1 Z a sa kc cz c1 h0 n0 v U'.heap L ∧ FrameEnd U o U' L ({ frames := 2, cells := 1, slots := 1, locals := 35 } : Room).cells ({ frames := 2, cells := 1, slots := 1, locals := 35 } : Room).slots) := by
  refine MetFree.of_bodySF (plainFor_of_name own_pn1) hisR ?_
  intro p e s m args below meth c s₁ Bd hml0 hP hK
  obtain ⟨rfl, hZ, hh⟩ := hP
  have hx := Bd.exec
  have hby := Bd.bytes
  have hml : c.maxLocals = 6 := hml0
  have hown : s.vm.findClass "java/lang/String" = some m.cls := findClass_of_methodNamed Bd.named
  have hnm := (name_of_methodNamed Bd.named Bd.method).1
  have X0 : Stand p l e ({ frames := 2, cells := 1, slots := 1, locals := 35 } : Room) s m #[(.ref a), (.ref sa), (.int (0 : Int32)), (.int (1 : Int32)), .null] below meth c s₁ [] 0 0 := Stand.of_body Bd
  have e0 : s₁.heap = h0 := by rw [← hh, Bd.state]; rfl
  have N0 := Fr.nil n0
  have pre0 : ∀ t, Steps p.tables e below (s₁.setTop (mkF m 0 #[.val (.ref a), .val (.ref sa), .val (.int (0 : Int32)), .val (.int (1 : Int32)), .val .null, .unset] [])) t → Steps p.tables e below (s₁.setTop (entryFrame m #[(.ref a), (.ref sa), (.int (0 : Int32)), (.int (1 : Int32)), .null] 6)) t := fun t k => castTop (own_ef2_4 m a sa (0 : Int32) (1 : Int32)) k
  have KP := Keep.refl h0 ([a] : List Addr)
  obtain ⟨T1, X1, e1, st1⟩ := initO X0 hx hZ hown (hw _ (List.mem_of_getElem? (i := 12) rfl)) (hw _ (List.mem_of_getElem? (i := 13) rfl)) (hw _ (List.mem_of_getElem? (i := 14) rfl)) e0 (g := (mkF m 1 #[.val (.ref a), .val (.ref sa), .val (.int (0 : Int32)), .val (.int (1 : Int32)), .val .null, .unset] [(.ref a)])) rfl (by rw [hml]; rfl) rfl (hb hby own_d2_1) (by decide) (W := 0) (by show 2 * 0 + _ ≤ _; exact Nat.le_of_eq rfl) (by decide)
  obtain ⟨T2, X2, e2, st2⟩ := getS2 X1 hx hZ hown (host := "") (Or.inl (hw _ (List.mem_of_getElem? (i := 15) rfl))) Via.refl e1 S (g := (mkF m 27 #[.val (.ref a), .val (.ref sa), .val (.int (0 : Int32)), .val (.int (1 : Int32)), .val .null, .unset] [])) rfl (hb hby own_d2_27)
  obtain ⟨_, _, ⟨T3, L3, k3, n3⟩, -, X3, ⟨Lc3, hQ3, l3, y3, z3⟩, st3⟩ := Jvm.LawKit.callS X2 hx (y := (⟨"java/lang/StringUTF16", "compress", "([CII)[B"⟩ : MethodName)) hown (mvT hZ (hw _ (List.mem_of_getElem? (i := 16) rfl))) (mvT hZ (hw _ (List.mem_of_getElem? (i := 17) rfl))) (mvT hZ (hw _ (List.mem_of_getElem? (i := 18) rfl))) (mvT hZ (hw _ (List.mem_of_getElem? (i := 19) rfl))) (by decide) (backOf (W := 0) (own_cmr1 l Z a0 hw [] sa kc c1 h0 n0 Z0 V hc1) hZ (hw _ (List.mem_of_getElem? (i := 19) rfl)) (hw _ (List.mem_of_getElem? (i := 18) rfl)) (by decide) (by decide)) (g := (mkF m 36 #[.val (.ref a), .val (.ref sa), .val (.int (0 : Int32)), .val (.int (1 : Int32)), .val .null, .unset] [(.int (1 : Int32)), (.int (0 : Int32)), (.ref sa)])) rfl (by rw [hml]; rfl) (argsL := [(.ref sa), (.int (0 : Int32)), (.int (1 : Int32))]) (rest := []) (lenOf own_pd1 rfl) rfl (by show 2 * 0 + _ ≤ _; exact Nat.le_of_eq rfl) (hb hby own_d2_36) (fun _ _ => ⟨rfl, e2, (by decide : 0 + 1 ≤ _), (by decide : 0 + 1 ≤ _)⟩)
  dsimp only [Pt.U, Pt.locs, Pt.cells, Pt.slots] at X3 l3 y3 z3 st3 hQ3
  subst l3 y3 z3
  obtain ⟨b3, kb3, rfl, N3q, K3, VB3, sz3⟩ := hQ3
  have N3 := Fr.app N0 N3q
  have g_b3 : n0 ≤ b3 := Nat.le_trans Z0 sz3
  have sz_b3 : h0.size ≤ b3 := Nat.le_trans KP.1 sz3
  have ne_a_b3 : a ≠ b3 := Nat.ne_of_lt (Nat.lt_of_lt_of_le E.lt sz3)
  have ne_sa_b3 : sa ≠ b3 := Nat.ne_of_lt (Nat.lt_of_lt_of_le V.lt sz3)
  have E := E.keep K3
  have Fco := Fco.keep K3 nin0
  have Fva := Fva.keep K3 nin0
  have V := V.keep K3 nin0
  have Z4 := Nat.le_trans Z0 K3.1
  have KP := KP.trans K3 all0
  obtain ⟨_, _, ⟨T5, L5, k5, n5⟩, -, X5, ⟨Lc5, hQ5, l5, y5, z5⟩, st5⟩ := Jvm.LawKit.callS X3 hx (y := (⟨"java/lang/StringUTF16", "coderFromArrayLen", "([BI)B"⟩ : MethodName)) hown (mvT hZ (hw _ (List.mem_of_getElem? (i := 24) rfl))) (mvT hZ (hw _ (List.mem_of_getElem? (i := 25) rfl))) (mvT hZ (hw _ (List.mem_of_getElem? (i := 18) rfl))) (mvT hZ (hw _ (List.mem_of_getElem? (i := 26) rfl))) (by decide) (backOf (W := 1) (own_cod1 l Z a0 hw [] b3 kb3 c1 T3.heap n0 Z4 VB3) hZ (hw _ (List.mem_of_getElem? (i := 26) rfl)) (hw _ (List.mem_of_getElem? (i := 18) rfl)) (by decide) (by decide)) (g := (mkF m 45 #[.val (.ref a), .val (.ref sa), .val (.int (0 : Int32)), .val (.int (1 : Int32)), .val .null, .val (.ref b3)] [(.int (1 : Int32)), (.ref b3), (.ref a)])) rfl (by rw [hml]; rfl) (argsL := [(.ref b3), (.int (1 : Int32))]) (rest := [(.ref a)]) (lenOf own_pd2 rfl) rfl (by show 2 * 0 + _ ≤ _; exact Nat.le_of_eq rfl) (hb hby own_d2_45) (fun _ _ => ⟨rfl, rfl, (by decide : 1 + 0 ≤ _), (by decide : 1 + 0 ≤ _)⟩)
  dsimp only [Pt.U, Pt.locs, Pt.cells, Pt.slots] at X5 l5 y5 z5 st5 hQ5
  subst l5 y5 z5
  obtain ⟨rfl, N5q, e5⟩ := hQ5
  have N5 := Fr.app N3 N5q
  obtain ⟨T6, h6, X6, e6, W6, st6⟩ := putFN X5 hx hZ hown (hw _ (List.mem_of_getElem? (i := 27) rfl)) Via.refl e5 Fco E (Or.inr ⟨(hw _ (List.mem_of_getElem? (i := 28) rfl)), rfl, hnm⟩) (hw _ (List.mem_of_getElem? (i := 2) rfl)) (ty := .byte) (v' := .int (nar .byte (0 : Int32))) (by decide) rfl (fits_nar_byte _) (g := (mkF m 48 #[.val (.ref a), .val (.ref sa), .val (.int (0 : Int32)), .val (.int (1 : Int32)), .val .null, .val (.ref b3)] [(.int (0 : Int32)), (.ref a)])) rfl rfl (hb hby own_d2_48)
  rw [(show nar .byte (0 : Int32) = (0 : Int32) from by decide)] at W6
  have E := E.wr W6
  have Fva := Fva.other W6 (Or.inr (slot_ne (Or.inr (hw _ (List.mem_of_getElem? (i := 30) rfl))) (Or.inr (hw _ (List.mem_of_getElem? (i := 28) rfl))) (by decide) (t := (.array .byte)) (t' := .byte) (by decide) (by decide)))
  have VB3 := VB3.other W6 (Ne.symm ne_a_b3)
  have Z7 : n0 ≤ h6.size := Nat.le_trans Z4 (Keep.of_wr W6).1
  have KP := KP.wr W6 (Or.inl (List.mem_of_getElem? (i := 0) rfl))
  have Fco := Fco.same W6
  have N6 := Fr.snoc X6 N5 g
  obtain ⟨T8, h8, X8, e8, W8, st8⟩ := putF X6 hx hZ hown (host := "") (Or.inl (hw _ (List.mem_of_getElem? (i := 29) rfl))) Via.refl e6 Fva E (Or.inr ⟨(hw _ (List.mem_of_getElem? (i := 30) rfl)), rfl, hnm⟩) (hw _ (List.mem_of_getElem? (i := 2) rfl)) (ty := (.array .byte)) (by decide) rfl rfl (g := (mkF m 54 #[.val (.ref a), .val (.ref sa), .val (.int (0 : Int32)), .val (.int (1 : Int32)), .val .null, .val (.ref b3)] [(.ref b3), (.ref a)])) rfl rfl (hb hby own_d2_54)
  have E := E.wr W8
  have Fco := Fco.other W8 (Or.inr (slot_ne (Or.inr (hw _ (List.mem_of_getElem? (i := 28) rfl))) (Or.inr (hw _ (List.mem_of_getElem? (i := 30) rfl))) (by decide) (t := .byte) (t' := (.array .byte)) (by decide) (by decide)))
  have VB3 := VB3.other W8 (Ne.symm ne_a_b3)
  have Z9 : n0 ≤ h8.size := Nat.le_trans Z7 (Keep.of_wr W8).1
  have KP := KP.wr W8 (Or.inl (List.mem_of_getElem? (i := 0) rfl))
  have Fva := Fva.same W8
  have N8 := Fr.snoc X8 N6 g
  obtain ⟨fs, hr, hrun, hended, hW, hsame⟩ := X8.leave (v := none) (fun _ => rfl)
  refine ⟨_, _, pre0 _ ?_, hrun, hended, _, _, rfl, ?_, ⟨_, rfl⟩, hW, hsame.mono (by decide) (by decide)⟩
  · show Steps p.tables e below (s₁.setTop (mkF m 0 #[.val (.ref a), .val (.ref sa), .val (.int (0 : Int32)), .val (.int (1 : Int32)), .val .null, .unset] [])) _
    refine XS.aloadN X0.here hx rfl (hb hby own_d2_0) rfl rfl ?_
    show Steps p.tables e below (s₁.setTop (mkF m 1 #[.val (.ref a), .val (.ref sa), .val (.int (0 : Int32)), .val (.int (1 : Int32)), .val .null, .unset] [(.ref a)])) _
    refine st1 _ ?_
    show Steps p.tables e below (T1.setTop (mkF m 4 #[.val (.ref a), .val (.ref sa), .val (.int (0 : Int32)), .val (.int (1 : Int32)), .val .null, .unset] [])) _
    refine XS.iloadN X1.here hx rfl (hb hby own_d2_4) rfl ?_
    show Steps p.tables e below (T1.setTop (mkF m 5 #[.val (.ref a), .val (.ref sa), .val (.int (0 : Int32)), .val (.int (1 : Int32)), .val .null, .unset] [(.int (1 : Int32))])) _
    refine XS.ifYes X1.here hx rfl (pc0 := 5) (pc' := 27) rfl (hb hby own_d2_5) rfl ((if0 _ _).trans (feq (by decide : ¬ ((1 : Int32) = (0 : Int32)))).2) (by decide) (by decide) ?_
    show Steps p.tables e below (T1.setTop (mkF m 27 #[.val (.ref a), .val (.ref sa), .val (.int (0 : Int32)), .val (.int (1 : Int32)), .val .null, .unset] [])) _
    refine st2 _ ?_
    show Steps p.tables e below (T2.setTop (mkF m 30 #[.val (.ref a), .val (.ref sa), .val (.int (0 : Int32)), .val (.int (1 : Int32)), .val .null, .unset] [(.int cz)])) _
    refine XS.ifNo X2.here hx rfl (hb hby own_d2_30) rfl ((if0 _ _).trans (feq hcz).1) ?_
    show Steps p.tables e below (T2.setTop (mkF m 33 #[.val (.ref a), .val (.ref sa), .val (.int (0 : Int32)), .val (.int (1 : Int32)), .val .null, .unset] [])) _
    refine XS.aloadN X2.here hx rfl (hb hby own_d2_33) rfl rfl ?_
    show Steps p.tables e below (T2.setTop (mkF m 34 #[.val (.ref a), .val (.ref sa), .val (.int (0 : Int32)), .val (.int (1 : Int32)), .val .null, .unset] [(.ref sa)])) _
    refine XS.iloadN X2.here hx rfl (hb hby own_d2_34) rfl ?_
    show Steps p.tables e below (T2.setTop (mkF m 35 #[.val (.ref a), .val (.ref sa), .val (.int (0 : Int32)), .val (.int (1 : Int32)), .val .null, .unset] [(.int (0 : Int32)), (.ref sa)])) _
    refine XS.iloadN X2.here hx rfl (hb hby own_d2_35) rfl ?_
    show Steps p.tables e below (T2.setTop (mkF m 36 #[.val (.ref a), .val (.ref sa), .val (.int (0 : Int32)), .val (.int (1 : Int32)), .val .null, .unset] [(.int (1 : Int32)), (.int (0 : Int32)), (.ref sa)])) _
    refine st3 _ ?_
    show Steps p.tables e below (T3.setTop (mkF m 39 #[.val (.ref a), .val (.ref sa), .val (.int (0 : Int32)), .val (.int (1 : Int32)), .val .null, .unset] [(.ref b3)])) _
    refine XS.astore X3.here hx rfl (hb hby own_d2_39) rfl rfl (l' := #[.val (.ref a), .val (.ref sa), .val (.int (0 : Int32)), .val (.int (1 : Int32)), .val .null, .val (.ref b3)]) rfl ?_
    show Steps p.tables e below (T3.setTop (mkF m 41 #[.val (.ref a), .val (.ref sa), .val (.int (0 : Int32)), .val (.int (1 : Int32)), .val .null, .val (.ref b3)] [])) _
    refine XS.aloadN X3.here hx rfl (hb hby own_d2_41) rfl rfl ?_
    show Steps p.tables e below (T3.setTop (mkF m 42 #[.val (.ref a), .val (.ref sa), .val (.int (0 : Int32)), .val (.int (1 : Int32)), .val .null, .val (.ref b3)] [(.ref a)])) _
    refine XS.aload X3.here hx rfl (hb hby own_d2_42) rfl rfl ?_
    show Steps p.tables e below (T3.setTop (mkF m 44 #[.val (.ref a), .val (.ref sa), .val (.int (0 : Int32)), .val (.int (1 : Int32)), .val .null, .val (.ref b3)] [(.ref b3), (.ref a)])) _
    refine XS.iloadN X3.here hx rfl (hb hby own_d2_44) rfl ?_
    show Steps p.tables e below (T3.setTop (mkF m 45 #[.val (.ref a), .val (.ref sa), .val (.int (0 : Int32)), .val (.int (1 : Int32)), .val .null, .val (.ref b3)] [(.int (1 : Int32)), (.ref b3), (.ref a)])) _
    refine st5 _ ?_
    show Steps p.tables e below (T5.setTop (mkF m 48 #[.val (.ref a), .val (.ref sa), .val (.int (0 : Int32)), .val (.int (1 : Int32)), .val .null, .val (.ref b3)] [(.int (0 : Int32)), (.ref a)])) _
    refine st6 _ ?_
    show Steps p.tables e below (T6.setTop (mkF m 51 #[.val (.ref a), .val (.ref sa), .val (.int (0 : Int32)), .val (.int (1 : Int32)), .val .null, .val (.ref b3)] [])) _
    refine XS.aloadN X6.here hx rfl (hb hby own_d2_51) rfl rfl ?_
    show Steps p.tables e below (T6.setTop (mkF m 52 #[.val (.ref a), .val (.ref sa), .val (.int (0 : Int32)), .val (.int (1 : Int32)), .val .null, .val (.ref b3)] [(.ref a)])) _
    refine XS.aload X6.here hx rfl (hb hby own_d2_52) rfl rfl ?_
    show Steps p.tables e below (T6.setTop (mkF m 54 #[.val (.ref a), .val (.ref sa), .val (.int (0 : Int32)), .val (.int (1 : Int32)), .val .null, .val (.ref b3)] [(.ref b3), (.ref a)])) _
    refine st8 _ ?_
    show Steps p.tables e below (T8.setTop (mkF m 57 #[.val (.ref a), .val (.ref sa), .val (.int (0 : Int32)), .val (.int (1 : Int32)), .val .null, .val (.ref b3)] [])) _
    exact X8.returnOut hx Bd.returns (hb hby own_d2_57) hr
  · show own_Q_own_siv1 Z a sa kc cz c1 h0 n0 _ T8.heap _
    rw [e8]
    exact ⟨b3, _, rfl, N8, KP, E, Fco, Fva, VB3, sz_b3⟩
theorem own_pd3 : parseMethodDescriptor "([CIILjava/lang/Void;)V" = some ⟨[(.array .char), .int, .int, (.object "java/lang/Void")], none⟩ := by decide +kernel
theorem own_d1_0 : decode jdk_42_method_3_code 0 = .ok (.aload_n 0, 1) := by decide +kernel
theorem own_d1_1 : decode jdk_42_method_3_code 1 = .ok (.aload_n 1, 1) := by decide +kernel
theorem own_d1_2 : decode jdk_42_method_3_code 2 = .ok (.iconst 0, 1) := by decide +kernel
theorem own_d1_3 : decode jdk_42_method_3_code 3 = .ok (.aload_n 1, 1) := by decide +kernel
theorem own_d1_4 : decode jdk_42_method_3_code 4 = .ok (.arraylength, 1) := by decide +kernel
theorem own_d1_5 : decode jdk_42_method_3_code 5 = .ok (.aconst_null, 1) := by decide +kernel
theorem own_d1_6 : decode jdk_42_method_3_code 6 = .ok (.invokespecial 27, 3) := by decide +kernel
theorem own_d1_9 : decode jdk_42_method_3_code 9 = .ok (.return_, 1) := by decide +kernel
theorem own_ef1 (m : MethodId) (x0 : Addr) (x1 : Addr) : entryFrame m #[(.ref x0), (.ref x1)] 2 = mkF m 0 #[.val (.ref x0), .val (.ref x1)] [] := by first | (simp [entryFrame, mkF, argsToLocals, Value.category]; done) | rfl
def own_Q_own_sic1 (Z : State) (a : Addr) (sa : Addr) (kc : ClassId) (cz : Int32) (c1 : Int32) (h0 : Heap) (n0 : Nat) (v : Option Value) (h : Heap) (L : List Loc) : Prop := ∃ (b : Addr) (kb : ClassId), v = none ∧ Fr n0 L ∧ Keep h0 h [a] ∧ Exa Z h a "java/lang/String" ∧ Fld Z h a "java/lang/String" "coder" "B" (.int (0 : Int32)) ∧ Fld Z h a "java/lang/String" "value" "[B" (.ref b) ∧ Arv Z h b kb .byte (1 : Int32) [(.int (c1.toInt8.toInt32))] (.int (0 : Int32)) ∧ h0.size ≤ b
set_option maxRecDepth 65536 in
set_option maxHeartbeats 40000000 in
theorem own_sic1 (l : Launch) (Z : State) (a0 : Array Value) (hw : ∀ d ∈ tables_1, d.before a0 Z = true) (ws : List Jvm.Cond) (a : Addr) (sa : Addr) (kc : ClassId) (cz : Int32) (c1 : Int32) (h0 : Heap) (n0 : Nat) (Z0 : n0 ≤ h0.size) (E : Exa Z h0 a "java/lang/String") (Fco : Fld Z h0 a "java/lang/String" "coder" "B" (.int (0 : Int32))) (Fva : Fld Z h0 a "java/lang/String" "value" "[B" .null) (g : n0 ≤ a) (V : Arv Z h0 sa kc .char (1 : Int32) [(.int c1)] (.int (0 : Int32))) (hc1 : ¬ ((255 : Int32) < c1)) (S : Sta Z h0 "java/lang/String" "COMPACT_STRINGS" "Z" (.int cz)) (hcz : ¬ (cz = (0 : Int32))) :
    MetFree l (⟨"java/lang/String", "<init>", "([C)V"⟩ : MethodName) (head1 (Jvm.Cond.code (⟨"java/lang/String", "<init>", "([C)V"⟩ : MethodName) jdk_42_method_3_code 2 none :: ws) ({ frames := 3, cells := 1, slots := 1, locals := 52 } : Room)) (fun as_ U => as_ = #[(.ref a), (.ref sa)] ∧ Z.Warmed39 U.vm ∧ U.heap = h0) (fun _ _ _ _ _ => True) (fun _ U o U' => ∃ v L, o = .returned v ∧ own_Q_own_sic1 Z a sa kc cz c1 h0 n0 v U'.heap L ∧ FrameEnd U o U' L ({ frames := 3, cells := 1, slots := 1, locals := 52 } : Room).cells ({ frames := 3, cells := 1, slots := 1, locals := 52 } : Room).slots) := by
  refine MetFree.of_bodySF (plainFor_of_name own_pn1) hisR ?_
  intro p e s m args below meth c s₁ Bd hml0 hP hK
  obtain ⟨rfl, hZ, hh⟩ := hP
  have hx := Bd.exec
  have hby := Bd.bytes
  have hml : c.maxLocals = 2 := hml0
  have hown : s.vm.findClass "java/lang/String" = some m.cls := findClass_of_methodNamed Bd.named
  have hnm := (name_of_methodNamed Bd.named Bd.method).1
  have X0 : Stand p l e ({ frames := 3, cells := 1, slots := 1, locals := 52 } : Room) s m #[(.ref a), (.ref sa)] below meth c s₁ [] 0 0 := Stand.of_body Bd
  have e0 : s₁.heap = h0 := by rw [← hh, Bd.state]; rfl
  have N0 := Fr.nil n0
  have pre0 : ∀ t, Steps p.tables e below (s₁.setTop (mkF m 0 #[.val (.ref a), .val (.ref sa)] [])) t → Steps p.tables e below (s₁.setTop (entryFrame m #[(.ref a), (.ref sa)] 2)) t := fun t k => castTop (own_ef1 m a sa) k
  have KP := Keep.refl h0 ([a] : List Addr)
  obtain ⟨cl1, Ar1, q1, S1, M1, H1, G1⟩ := id V
  obtain ⟨_, _, ⟨T2, L2, k2, n2⟩, -, X2, ⟨Lc2, hQ2, l2, y2, z2⟩, st2⟩ := X0.specialBack hx (y := (⟨"java/lang/String", "<init>", "([CIILjava/lang/Void;)V"⟩ : MethodName)) rfl hown (mvT hZ (hw _ (List.mem_of_getElem? (i := 8) rfl))) (mvT hZ (hw _ (List.mem_of_getElem? (i := 9) rfl))) (mvT hZ (hw _ (List.mem_of_getElem? (i := 11) rfl))) (by decide) (backOf (W := 0) (own_siv1 l Z a0 hw [] a sa kc cz c1 h0 n0 Z0 E Fco Fva g V hc1 S hcz) hZ (hw _ (List.mem_of_getElem? (i := 11) rfl)) (hw _ (List.mem_of_getElem? (i := 3) rfl)) (by decide) (by decide)) (g := (mkF m 6 #[.val (.ref a), .val (.ref sa)] [.null, (.int (1 : Int32)), (.int (0 : Int32)), (.ref sa), (.ref a)])) rfl (by rw [hml]; rfl) (Steps.refl _) (a := a) (argsL := [(.ref sa), (.int (0 : Int32)), (.int (1 : Int32)), .null]) (rest := []) (lenOf own_pd3 rfl) rfl (by show 2 * 0 + _ ≤ _; exact Nat.le_of_eq rfl) (hb hby own_d1_6) (fun _ _ => ⟨rfl, e0, (by decide : 0 + 1 ≤ _), (by decide : 0 + 1 ≤ _)⟩)
  dsimp only [Pt.U, Pt.locs, Pt.cells, Pt.slots] at X2 l2 y2 z2 st2 hQ2
  subst l2 y2 z2
  obtain ⟨b2, kb2, rfl, N2q, K2, Ee2, Fc2, Fv2, VB2, sz2⟩ := hQ2
  have N2 := Fr.app N0 N2q
  have Z3 := Nat.le_trans Z0 K2.1
  have KP := KP.trans K2 (allS (Or.inl (List.mem_of_getElem? (i := 0) rfl)) all0)
  obtain ⟨fs, hr, hrun, hended, hW, hsame⟩ := X2.leave (v := none) (fun _ => rfl)
  refine ⟨_, _, pre0 _ ?_, hrun, hended, _, _, rfl, ?_, ⟨_, rfl⟩, hW, hsame.mono (by decide) (by decide)⟩
  · show Steps p.tables e below (s₁.setTop (mkF m 0 #[.val (.ref a), .val (.ref sa)] [])) _
    refine XS.aloadN X0.here hx rfl (hb hby own_d1_0) rfl rfl ?_
    show Steps p.tables e below (s₁.setTop (mkF m 1 #[.val (.ref a), .val (.ref sa)] [(.ref a)])) _
    refine XS.aloadN X0.here hx rfl (hb hby own_d1_1) rfl rfl ?_
    show Steps p.tables e below (s₁.setTop (mkF m 2 #[.val (.ref a), .val (.ref sa)] [(.ref sa), (.ref a)])) _
    refine XS.iconst X0.here hx rfl (hb hby own_d1_2) ?_
    show Steps p.tables e below (s₁.setTop (mkF m 3 #[.val (.ref a), .val (.ref sa)] [(.int (0 : Int32)), (.ref sa), (.ref a)])) _
    refine XS.aloadN X0.here hx rfl (hb hby own_d1_3) rfl rfl ?_
    show Steps p.tables e below (s₁.setTop (mkF m 4 #[.val (.ref a), .val (.ref sa)] [(.ref sa), (.int (0 : Int32)), (.ref sa), (.ref a)])) _
    refine X0.arraylength hx (by rw [e0]; exact Ar1.1) (State.isArrayOf_alike hZ.alike Ar1.2.1) (g := (mkF m 4 #[.val (.ref a), .val (.ref sa)] [(.ref sa), (.int (0 : Int32)), (.ref sa), (.ref a)])) rfl rfl (hb hby own_d1_4) _ ?_
    rw [len_of S1 M1]
    show Steps p.tables e below (s₁.setTop (mkF m 5 #[.val (.ref a), .val (.ref sa)] [(.int (1 : Int32)), (.int (0 : Int32)), (.ref sa), (.ref a)])) _
    refine XS.aconstNull X0.here hx rfl (hb hby own_d1_5) ?_
    show Steps p.tables e below (s₁.setTop (mkF m 6 #[.val (.ref a), .val (.ref sa)] [.null, (.int (1 : Int32)), (.int (0 : Int32)), (.ref sa), (.ref a)])) _
    refine st2.trans ?_
    show Steps p.tables e below (T2.setTop (mkF m 9 #[.val (.ref a), .val (.ref sa)] [])) _
    exact X2.returnOut hx Bd.returns (hb hby own_d1_9) hr
  · show own_Q_own_sic1 Z a sa kc cz c1 h0 n0 _ T2.heap _
    exact ⟨b2, kb2, rfl, N2, K2, Ee2, Fc2, Fv2, VB2, sz2⟩
def own_Q_own_cmp2 (Z : State) (sa : Addr) (db : Addr) (kc : ClassId) (kb : ClassId) (c1 : Int32) (c2 : Int32) (h0 : Heap) (n0 : Nat) (v : Option Value) (h : Heap) (L : List Loc) : Prop := v = some (.int (2 : Int32)) ∧ Fr n0 L ∧ Keep h0 h [db] ∧ Arv Z h db kb .byte (2 : Int32) [(.int (c1.toInt8.toInt32)), (.int (c2.toInt8.toInt32))] (.int (0 : Int32))
set_option maxRecDepth 65536 in
set_option maxHeartbeats 40000000 in
theorem own_cmp2 (l : Launch) (Z : State) (a0 : Array Value) (hw : ∀ d ∈ tables_1, d.before a0 Z = true) (ws : List Jvm.Cond) (sa : Addr) (db : Addr) (kc : ClassId) (kb : ClassId) (c1 : Int32) (c2 : Int32) (h0 : Heap) (n0 : Nat) (Z0 : n0 ≤ h0.size) (V : Arv Z h0 sa kc .char (2 : Int32) [(.int c1), (.int c2)] (.int (0 : Int32))) (VB : Arv Z h0 db kb .byte (2 : Int32) [(.int (0 : Int32)), (.int (0 : Int32))] (.int (0 : Int32))) (ne1 : sa ≠ db) (g : n0 ≤ db) (hc1 : ¬ ((255 : Int32) < c1)) (hc2 : ¬ ((255 : Int32) < c2)) :
    MetFree l (⟨"java/lang/StringUTF16", "compress", "([CI[BII)I"⟩ : MethodName) (head1 (Jvm.Cond.code (⟨"java/lang/StringUTF16", "compress", "([CI[BII)I"⟩ : MethodName) jdk_52_method_21_code 7 (some .int) :: ws) ({ frames := 0, cells := 0, slots := 0, locals := 0 } : Room)) (fun as_ U => as_ = #[(.ref sa), (.int (0 : Int32)), (.ref db), (.int (0 : Int32)), (.int (2 : Int32))] ∧ Z.Warmed39 U.vm ∧ U.heap = h0) (fun _ _ _ _ _ => True) (fun _ U o U' => ∃ v L, o = .returned v ∧ own_Q_own_cmp2 Z sa db kc kb c1 c2 h0 n0 v U'.heap L ∧ FrameEnd U o U' L ({ frames := 0, cells := 0, slots := 0, locals := 0 } : Room).cells ({ frames := 0, cells := 0, slots := 0, locals := 0 } : Room).slots) := by
  refine MetFree.of_bodySF (plainFor_of_name own_pn0) hisR ?_
  intro p e s m args below meth c s₁ Bd hml0 hP hK
  obtain ⟨rfl, hZ, hh⟩ := hP
  have hx := Bd.exec
  have hby := Bd.bytes
  have hml : c.maxLocals = 7 := hml0
  have hown : s.vm.findClass "java/lang/StringUTF16" = some m.cls := findClass_of_methodNamed Bd.named
  have hnm := (name_of_methodNamed Bd.named Bd.method).1
  have X0 : Stand p l e ({ frames := 0, cells := 0, slots := 0, locals := 0 } : Room) s m #[(.ref sa), (.int (0 : Int32)), (.ref db), (.int (0 : Int32)), (.int (2 : Int32))] below meth c s₁ [] 0 0 := Stand.of_body Bd
  have e0 : s₁.heap = h0 := by rw [← hh, Bd.state]; rfl
  have N0 := Fr.nil n0
  have pre0 : ∀ t, Steps p.tables e below (s₁.setTop (mkF m 0 #[.val (.ref sa), .val (.int (0 : Int32)), .val (.ref db), .val (.int (0 : Int32)), .val (.int (2 : Int32)), .unset, .unset] [])) t → Steps p.tables e below (s₁.setTop (entryFrame m #[(.ref sa), (.int (0 : Int32)), (.ref db), (.int (0 : Int32)), (.int (2 : Int32))] 7)) t := fun t k => castTop (own_ef5 m sa (0 : Int32) db (0 : Int32) (2 : Int32)) k
  have KP := Keep.refl h0 ([db] : List Addr)
  obtain ⟨cl1, Ar1, q1, S1, M1, H1, G1⟩ := id V
  have hin1 : ¬ ((0 : Int32) < 0 ∨ cl1.slots.size ≤ ((0 : Int32)).toNatClampNeg) := inb_of S1 ⟨by decide, by decide⟩
  obtain ⟨cl2, Ar2, q2, S2, M2, H2, G2⟩ := id VB
  have hin2 : ¬ ((0 : Int32) < 0 ∨ cl2.slots.size ≤ ((0 : Int32)).toNatClampNeg) := inb_of S2 ⟨by decide, by decide⟩
  obtain ⟨T3, h3, X3, e3, W3, st3⟩ := stB X0 hx hZ e0 Ar2 (j := (0 : Int32)) hin2 (g := (mkF m 31 #[.val (.ref sa), .val (.int (0 : Int32)), .val (.ref db), .val (.int (0 : Int32)), .val (.int (2 : Int32)), .val (.int (0 : Int32)), .val (.int c1)] [(.int (c1.toInt8.toInt32)), (.int (0 : Int32)), (.ref db)])) rfl rfl (hb hby own_d5_31)
  have V := V.other W3 ne1
  have Z4 : n0 ≤ h3.size := Nat.le_trans Z0 (Keep.of_wr W3).1
  have KP := KP.wr W3 (Or.inl (List.mem_of_getElem? (i := 0) rfl))
  have VB := Arv.set Ar2 q2 S2 M2 H2 G2 (fits_nar_byte _) W3 0 rfl (Nat.le_of_ble_eq_true rfl)
  have VB : Arv Z h3 db kb .byte (2 : Int32) [(.int (c1.toInt8.toInt32)), (.int (0 : Int32))] (.int (0 : Int32)) := by have q := VB; simp only [own_b8, List.set] at q; exact q
  have N3 := Fr.snoc X3 N0 g
  obtain ⟨cl5, Ar5, q5, S5, M5, H5, G5⟩ := id V
  have hin5 : ¬ ((1 : Int32) < 0 ∨ cl5.slots.size ≤ ((1 : Int32)).toNatClampNeg) := inb_of S5 ⟨by decide, by decide⟩
  obtain ⟨cl6, Ar6, q6, S6, M6, H6, G6⟩ := id VB
  have hin6 : ¬ ((1 : Int32) < 0 ∨ cl6.slots.size ≤ ((1 : Int32)).toNatClampNeg) := inb_of S6 ⟨by decide, by decide⟩
  obtain ⟨T7, h7, X7, e7, W7, st7⟩ := stB X3 hx hZ e3 Ar6 (j := (1 : Int32)) hin6 (g := (mkF m 31 #[.val (.ref sa), .val (.int (1 : Int32)), .val (.ref db), .val (.int (1 : Int32)), .val (.int (2 : Int32)), .val (.int (1 : Int32)), .val (.int c2)] [(.int (c2.toInt8.toInt32)), (.int (1 : Int32)), (.ref db)])) rfl rfl (hb hby own_d5_31)
  have V := V.other W7 ne1
  have Z8 : n0 ≤ h7.size := Nat.le_trans Z4 (Keep.of_wr W7).1
  have KP := KP.wr W7 (Or.inl (List.mem_of_getElem? (i := 0) rfl))
  have VB := Arv.set Ar6 q6 S6 M6 H6 G6 (fits_nar_byte _) W7 1 rfl (Nat.le_of_ble_eq_true rfl)
  have VB : Arv Z h7 db kb .byte (2 : Int32) [(.int (c1.toInt8.toInt32)), (.int (c2.toInt8.toInt32))] (.int (0 : Int32)) := by have q := VB; simp only [own_b8, List.set] at q; exact q
  have N7 := Fr.snoc X7 N3 g
  obtain ⟨fs, hr, hrun, hended, hW, hsame⟩ := X7.leave (v := some (.int (2 : Int32))) (fun h => by rw [Bd.returns] at h; cases h)
  refine ⟨_, _, pre0 _ ?_, hrun, hended, _, _, rfl, ?_, ⟨_, rfl⟩, hW, hsame.mono (by decide) (by decide)⟩
  · show Steps p.tables e below (s₁.setTop (mkF m 0 #[.val (.ref sa), .val (.int (0 : Int32)), .val (.ref db), .val (.int (0 : Int32)), .val (.int (2 : Int32)), .unset, .unset] [])) _
    refine XS.iconst X0.here hx rfl (hb hby own_d5_0) ?_
    show Steps p.tables e below (s₁.setTop (mkF m 1 #[.val (.ref sa), .val (.int (0 : Int32)), .val (.ref db), .val (.int (0 : Int32)), .val (.int (2 : Int32)), .unset, .unset] [(.int (0 : Int32))])) _
    refine XS.istore X0.here hx rfl (hb hby own_d5_1) rfl (l' := #[.val (.ref sa), .val (.int (0 : Int32)), .val (.ref db), .val (.int (0 : Int32)), .val (.int (2 : Int32)), .val (.int (0 : Int32)), .unset]) rfl ?_
    show Steps p.tables e below (s₁.setTop (mkF m 3 #[.val (.ref sa), .val (.int (0 : Int32)), .val (.ref db), .val (.int (0 : Int32)), .val (.int (2 : Int32)), .val (.int (0 : Int32)), .unset] [])) _
    refine XS.iload X0.here hx rfl (hb hby own_d5_3) rfl ?_
    show Steps p.tables e below (s₁.setTop (mkF m 5 #[.val (.ref sa), .val (.int (0 : Int32)), .val (.ref db), .val (.int (0 : Int32)), .val (.int (2 : Int32)), .val (.int (0 : Int32)), .unset] [(.int (0 : Int32))])) _
    refine XS.iload X0.here hx rfl (hb hby own_d5_5) rfl ?_
    show Steps p.tables e below (s₁.setTop (mkF m 7 #[.val (.ref sa), .val (.int (0 : Int32)), .val (.ref db), .val (.int (0 : Int32)), .val (.int (2 : Int32)), .val (.int (0 : Int32)), .unset] [(.int (2 : Int32)), (.int (0 : Int32))])) _
    refine XS.icmpNo X0.here hx rfl (hb hby own_d5_7) rfl (tlt (by decide : (0 : Int32) < (2 : Int32))).2.1 ?_
    show Steps p.tables e below (s₁.setTop (mkF m 10 #[.val (.ref sa), .val (.int (0 : Int32)), .val (.ref db), .val (.int (0 : Int32)), .val (.int (2 : Int32)), .val (.int (0 : Int32)), .unset] [])) _
    refine XS.aloadN X0.here hx rfl (hb hby own_d5_10) rfl rfl ?_
    show Steps p.tables e below (s₁.setTop (mkF m 11 #[.val (.ref sa), .val (.int (0 : Int32)), .val (.ref db), .val (.int (0 : Int32)), .val (.int (2 : Int32)), .val (.int (0 : Int32)), .unset] [(.ref sa)])) _
    refine XS.iloadN X0.here hx rfl (hb hby own_d5_11) rfl ?_
    show Steps p.tables e below (s₁.setTop (mkF m 12 #[.val (.ref sa), .val (.int (0 : Int32)), .val (.ref db), .val (.int (0 : Int32)), .val (.int (2 : Int32)), .val (.int (0 : Int32)), .unset] [(.int (0 : Int32)), (.ref sa)])) _
    refine X0.caload hx (j := (0 : Int32)) (v := (.int c1)) (by rw [e0]; exact Ar1.1) (State.isArrayOf_alike hZ.alike Ar1.2.1) Ar1.2.2 hin1 (H1.at hin1 rfl) (g := (mkF m 12 #[.val (.ref sa), .val (.int (0 : Int32)), .val (.ref db), .val (.int (0 : Int32)), .val (.int (2 : Int32)), .val (.int (0 : Int32)), .unset] [(.int (0 : Int32)), (.ref sa)])) rfl rfl (hb hby own_d5_12) _ ?_
    show Steps p.tables e below (s₁.setTop (mkF m 13 #[.val (.ref sa), .val (.int (0 : Int32)), .val (.ref db), .val (.int (0 : Int32)), .val (.int (2 : Int32)), .val (.int (0 : Int32)), .unset] [(.int c1)])) _
    refine XS.istore X0.here hx rfl (hb hby own_d5_13) rfl (l' := #[.val (.ref sa), .val (.int (0 : Int32)), .val (.ref db), .val (.int (0 : Int32)), .val (.int (2 : Int32)), .val (.int (0 : Int32)), .val (.int c1)]) rfl ?_
    show Steps p.tables e below (s₁.setTop (mkF m 15 #[.val (.ref sa), .val (.int (0 : Int32)), .val (.ref db), .val (.int (0 : Int32)), .val (.int (2 : Int32)), .val (.int (0 : Int32)), .val (.int c1)] [])) _
    refine XS.iload X0.here hx rfl (hb hby own_d5_15) rfl ?_
    show Steps p.tables e below (s₁.setTop (mkF m 17 #[.val (.ref sa), .val (.int (0 : Int32)), .val (.ref db), .val (.int (0 : Int32)), .val (.int (2 : Int32)), .val (.int (0 : Int32)), .val (.int c1)] [(.int c1)])) _
    refine XS.sipush X0.here hx rfl (hb hby own_d5_17) ?_
    show Steps p.tables e below (s₁.setTop (mkF m 20 #[.val (.ref sa), .val (.int (0 : Int32)), .val (.ref db), .val (.int (0 : Int32)), .val (.int (2 : Int32)), .val (.int (0 : Int32)), .val (.int c1)] [(.int (255 : Int32)), (.int c1)])) _
    refine XS.icmpYes X0.here hx rfl (pc0 := 20) (pc' := 26) rfl (hb hby own_d5_20) rfl (flt hc1).2.2.2 (by decide) (by decide) ?_
    show Steps p.tables e below (s₁.setTop (mkF m 26 #[.val (.ref sa), .val (.int (0 : Int32)), .val (.ref db), .val (.int (0 : Int32)), .val (.int (2 : Int32)), .val (.int (0 : Int32)), .val (.int c1)] [])) _
    refine XS.aloadN X0.here hx rfl (hb hby own_d5_26) rfl rfl ?_
    show Steps p.tables e below (s₁.setTop (mkF m 27 #[.val (.ref sa), .val (.int (0 : Int32)), .val (.ref db), .val (.int (0 : Int32)), .val (.int (2 : Int32)), .val (.int (0 : Int32)), .val (.int c1)] [(.ref db)])) _
    refine XS.iloadN X0.here hx rfl (hb hby own_d5_27) rfl ?_
    show Steps p.tables e below (s₁.setTop (mkF m 28 #[.val (.ref sa), .val (.int (0 : Int32)), .val (.ref db), .val (.int (0 : Int32)), .val (.int (2 : Int32)), .val (.int (0 : Int32)), .val (.int c1)] [(.int (0 : Int32)), (.ref db)])) _
    refine XS.iload X0.here hx rfl (hb hby own_d5_28) rfl ?_
    show Steps p.tables e below (s₁.setTop (mkF m 30 #[.val (.ref sa), .val (.int (0 : Int32)), .val (.ref db), .val (.int (0 : Int32)), .val (.int (2 : Int32)), .val (.int (0 : Int32)), .val (.int c1)] [(.int c1), (.int (0 : Int32)), (.ref db)])) _
    refine XS.i2b X0.here hx rfl (hb hby own_d5_30) rfl ?_
    show Steps p.tables e below (s₁.setTop (mkF m 31 #[.val (.ref sa), .val (.int (0 : Int32)), .val (.ref db), .val (.int (0 : Int32)), .val (.int (2 : Int32)), .val (.int (0 : Int32)), .val (.int c1)] [(.int (c1.toInt8.toInt32)), (.int (0 : Int32)), (.ref db)])) _
    refine st3 _ ?_
    show Steps p.tables e below (T3.setTop (mkF m 32 #[.val (.ref sa), .val (.int (0 : Int32)), .val (.ref db), .val (.int (0 : Int32)), .val (.int (2 : Int32)), .val (.int (0 : Int32)), .val (.int c1)] [])) _
    refine XS.iinc X3.here hx rfl (hb hby own_d5_32) rfl (l' := #[.val (.ref sa), .val (.int (1 : Int32)), .val (.ref db), .val (.int (0 : Int32)), .val (.int (2 : Int32)), .val (.int (0 : Int32)), .val (.int c1)]) rfl ?_
    show Steps p.tables e below (T3.setTop (mkF m 35 #[.val (.ref sa), .val (.int (1 : Int32)), .val (.ref db), .val (.int (0 : Int32)), .val (.int (2 : Int32)), .val (.int (0 : Int32)), .val (.int c1)] [])) _
    refine XS.iinc X3.here hx rfl (hb hby own_d5_35) rfl (l' := #[.val (.ref sa), .val (.int (1 : Int32)), .val (.ref db), .val (.int (1 : Int32)), .val (.int (2 : Int32)), .val (.int (0 : Int32)), .val (.int c1)]) rfl ?_
    show Steps p.tables e below (T3.setTop (mkF m 38 #[.val (.ref sa), .val (.int (1 : Int32)), .val (.ref db), .val (.int (1 : Int32)), .val (.int (2 : Int32)), .val (.int (0 : Int32)), .val (.int c1)] [])) _
    refine XS.iinc X3.here hx rfl (hb hby own_d5_38) rfl (l' := #[.val (.ref sa), .val (.int (1 : Int32)), .val (.ref db), .val (.int (1 : Int32)), .val (.int (2 : Int32)), .val (.int (1 : Int32)), .val (.int c1)]) rfl ?_
    show Steps p.tables e below (T3.setTop (mkF m 41 #[.val (.ref sa), .val (.int (1 : Int32)), .val (.ref db), .val (.int (1 : Int32)), .val (.int (2 : Int32)), .val (.int (1 : Int32)), .val (.int c1)] [])) _
    refine XS.goto X3.here hx rfl (pc0 := 41) (pc' := 3) rfl (hb hby own_d5_41) (by decide) (by decide) ?_
    show Steps p.tables e below (T3.setTop (mkF m 3 #[.val (.ref sa), .val (.int (1 : Int32)), .val (.ref db), .val (.int (1 : Int32)), .val (.int (2 : Int32)), .val (.int (1 : Int32)), .val (.int c1)] [])) _
    refine XS.iload X3.here hx rfl (hb hby own_d5_3) rfl ?_
    show Steps p.tables e below (T3.setTop (mkF m 5 #[.val (.ref sa), .val (.int (1 : Int32)), .val (.ref db), .val (.int (1 : Int32)), .val (.int (2 : Int32)), .val (.int (1 : Int32)), .val (.int c1)] [(.int (1 : Int32))])) _
    refine XS.iload X3.here hx rfl (hb hby own_d5_5) rfl ?_
    show Steps p.tables e below (T3.setTop (mkF m 7 #[.val (.ref sa), .val (.int (1 : Int32)), .val (.ref db), .val (.int (1 : Int32)), .val (.int (2 : Int32)), .val (.int (1 : Int32)), .val (.int c1)] [(.int (2 : Int32)), (.int (1 : Int32))])) _
    refine XS.icmpNo X3.here hx rfl (hb hby own_d5_7) rfl (tlt (by decide : (1 : Int32) < (2 : Int32))).2.1 ?_
    show Steps p.tables e below (T3.setTop (mkF m 10 #[.val (.ref sa), .val (.int (1 : Int32)), .val (.ref db), .val (.int (1 : Int32)), .val (.int (2 : Int32)), .val (.int (1 : Int32)), .val (.int c1)] [])) _
    refine XS.aloadN X3.here hx rfl (hb hby own_d5_10) rfl rfl ?_
    show Steps p.tables e below (T3.setTop (mkF m 11 #[.val (.ref sa), .val (.int (1 : Int32)), .val (.ref db), .val (.int (1 : Int32)), .val (.int (2 : Int32)), .val (.int (1 : Int32)), .val (.int c1)] [(.ref sa)])) _
    refine XS.iloadN X3.here hx rfl (hb hby own_d5_11) rfl ?_
    show Steps p.tables e below (T3.setTop (mkF m 12 #[.val (.ref sa), .val (.int (1 : Int32)), .val (.ref db), .val (.int (1 : Int32)), .val (.int (2 : Int32)), .val (.int (1 : Int32)), .val (.int c1)] [(.int (1 : Int32)), (.ref sa)])) _
    refine X3.caload hx (j := (1 : Int32)) (v := (.int c2)) (by rw [e3]; exact Ar5.1) (State.isArrayOf_alike hZ.alike Ar5.2.1) Ar5.2.2 hin5 (H5.at hin5 rfl) (g := (mkF m 12 #[.val (.ref sa), .val (.int (1 : Int32)), .val (.ref db), .val (.int (1 : Int32)), .val (.int (2 : Int32)), .val (.int (1 : Int32)), .val (.int c1)] [(.int (1 : Int32)), (.ref sa)])) rfl rfl (hb hby own_d5_12) _ ?_
    show Steps p.tables e below (T3.setTop (mkF m 13 #[.val (.ref sa), .val (.int (1 : Int32)), .val (.ref db), .val (.int (1 : Int32)), .val (.int (2 : Int32)), .val (.int (1 : Int32)), .val (.int c1)] [(.int c2)])) _
    refine XS.istore X3.here hx rfl (hb hby own_d5_13) rfl (l' := #[.val (.ref sa), .val (.int (1 : Int32)), .val (.ref db), .val (.int (1 : Int32)), .val (.int (2 : Int32)), .val (.int (1 : Int32)), .val (.int c2)]) rfl ?_
    show Steps p.tables e below (T3.setTop (mkF m 15 #[.val (.ref sa), .val (.int (1 : Int32)), .val (.ref db), .val (.int (1 : Int32)), .val (.int (2 : Int32)), .val (.int (1 : Int32)), .val (.int c2)] [])) _
    refine XS.iload X3.here hx rfl (hb hby own_d5_15) rfl ?_
    show Steps p.tables e below (T3.setTop (mkF m 17 #[.val (.ref sa), .val (.int (1 : Int32)), .val (.ref db), .val (.int (1 : Int32)), .val (.int (2 : Int32)), .val (.int (1 : Int32)), .val (.int c2)] [(.int c2)])) _
    refine XS.sipush X3.here hx rfl (hb hby own_d5_17) ?_
    show Steps p.tables e below (T3.setTop (mkF m 20 #[.val (.ref sa), .val (.int (1 : Int32)), .val (.ref db), .val (.int (1 : Int32)), .val (.int (2 : Int32)), .val (.int (1 : Int32)), .val (.int c2)] [(.int (255 : Int32)), (.int c2)])) _
    refine XS.icmpYes X3.here hx rfl (pc0 := 20) (pc' := 26) rfl (hb hby own_d5_20) rfl (flt hc2).2.2.2 (by decide) (by decide) ?_
    show Steps p.tables e below (T3.setTop (mkF m 26 #[.val (.ref sa), .val (.int (1 : Int32)), .val (.ref db), .val (.int (1 : Int32)), .val (.int (2 : Int32)), .val (.int (1 : Int32)), .val (.int c2)] [])) _
    refine XS.aloadN X3.here hx rfl (hb hby own_d5_26) rfl rfl ?_
    show Steps p.tables e below (T3.setTop (mkF m 27 #[.val (.ref sa), .val (.int (1 : Int32)), .val (.ref db), .val (.int (1 : Int32)), .val (.int (2 : Int32)), .val (.int (1 : Int32)), .val (.int c2)] [(.ref db)])) _
    refine XS.iloadN X3.here hx rfl (hb hby own_d5_27) rfl ?_
    show Steps p.tables e below (T3.setTop (mkF m 28 #[.val (.ref sa), .val (.int (1 : Int32)), .val (.ref db), .val (.int (1 : Int32)), .val (.int (2 : Int32)), .val (.int (1 : Int32)), .val (.int c2)] [(.int (1 : Int32)), (.ref db)])) _
    refine XS.iload X3.here hx rfl (hb hby own_d5_28) rfl ?_
    show Steps p.tables e below (T3.setTop (mkF m 30 #[.val (.ref sa), .val (.int (1 : Int32)), .val (.ref db), .val (.int (1 : Int32)), .val (.int (2 : Int32)), .val (.int (1 : Int32)), .val (.int c2)] [(.int c2), (.int (1 : Int32)), (.ref db)])) _
    refine XS.i2b X3.here hx rfl (hb hby own_d5_30) rfl ?_
    show Steps p.tables e below (T3.setTop (mkF m 31 #[.val (.ref sa), .val (.int (1 : Int32)), .val (.ref db), .val (.int (1 : Int32)), .val (.int (2 : Int32)), .val (.int (1 : Int32)), .val (.int c2)] [(.int (c2.toInt8.toInt32)), (.int (1 : Int32)), (.ref db)])) _
    refine st7 _ ?_
    show Steps p.tables e below (T7.setTop (mkF m 32 #[.val (.ref sa), .val (.int (1 : Int32)), .val (.ref db), .val (.int (1 : Int32)), .val (.int (2 : Int32)), .val (.int (1 : Int32)), .val (.int c2)] [])) _
    refine XS.iinc X7.here hx rfl (hb hby own_d5_32) rfl (l' := #[.val (.ref sa), .val (.int (2 : Int32)), .val (.ref db), .val (.int (1 : Int32)), .val (.int (2 : Int32)), .val (.int (1 : Int32)), .val (.int c2)]) rfl ?_
    show Steps p.tables e below (T7.setTop (mkF m 35 #[.val (.ref sa), .val (.int (2 : Int32)), .val (.ref db), .val (.int (1 : Int32)), .val (.int (2 : Int32)), .val (.int (1 : Int32)), .val (.int c2)] [])) _
    refine XS.iinc X7.here hx rfl (hb hby own_d5_35) rfl (l' := #[.val (.ref sa), .val (.int (2 : Int32)), .val (.ref db), .val (.int (2 : Int32)), .val (.int (2 : Int32)), .val (.int (1 : Int32)), .val (.int c2)]) rfl ?_
    show Steps p.tables e below (T7.setTop (mkF m 38 #[.val (.ref sa), .val (.int (2 : Int32)), .val (.ref db), .val (.int (2 : Int32)), .val (.int (2 : Int32)), .val (.int (1 : Int32)), .val (.int c2)] [])) _
    refine XS.iinc X7.here hx rfl (hb hby own_d5_38) rfl (l' := #[.val (.ref sa), .val (.int (2 : Int32)), .val (.ref db), .val (.int (2 : Int32)), .val (.int (2 : Int32)), .val (.int (2 : Int32)), .val (.int c2)]) rfl ?_
    show Steps p.tables e below (T7.setTop (mkF m 41 #[.val (.ref sa), .val (.int (2 : Int32)), .val (.ref db), .val (.int (2 : Int32)), .val (.int (2 : Int32)), .val (.int (2 : Int32)), .val (.int c2)] [])) _
    refine XS.goto X7.here hx rfl (pc0 := 41) (pc' := 3) rfl (hb hby own_d5_41) (by decide) (by decide) ?_
    show Steps p.tables e below (T7.setTop (mkF m 3 #[.val (.ref sa), .val (.int (2 : Int32)), .val (.ref db), .val (.int (2 : Int32)), .val (.int (2 : Int32)), .val (.int (2 : Int32)), .val (.int c2)] [])) _
    refine XS.iload X7.here hx rfl (hb hby own_d5_3) rfl ?_
    show Steps p.tables e below (T7.setTop (mkF m 5 #[.val (.ref sa), .val (.int (2 : Int32)), .val (.ref db), .val (.int (2 : Int32)), .val (.int (2 : Int32)), .val (.int (2 : Int32)), .val (.int c2)] [(.int (2 : Int32))])) _
    refine XS.iload X7.here hx rfl (hb hby own_d5_5) rfl ?_
    show Steps p.tables e below (T7.setTop (mkF m 7 #[.val (.ref sa), .val (.int (2 : Int32)), .val (.ref db), .val (.int (2 : Int32)), .val (.int (2 : Int32)), .val (.int (2 : Int32)), .val (.int c2)] [(.int (2 : Int32)), (.int (2 : Int32))])) _
    refine XS.icmpYes X7.here hx rfl (pc0 := 7) (pc' := 44) rfl (hb hby own_d5_7) rfl (flt (by decide : ¬ ((2 : Int32) < (2 : Int32)))).2.1 (by decide) (by decide) ?_
    show Steps p.tables e below (T7.setTop (mkF m 44 #[.val (.ref sa), .val (.int (2 : Int32)), .val (.ref db), .val (.int (2 : Int32)), .val (.int (2 : Int32)), .val (.int (2 : Int32)), .val (.int c2)] [])) _
    refine XS.iload X7.here hx rfl (hb hby own_d5_44) rfl ?_
    show Steps p.tables e below (T7.setTop (mkF m 46 #[.val (.ref sa), .val (.int (2 : Int32)), .val (.ref db), .val (.int (2 : Int32)), .val (.int (2 : Int32)), .val (.int (2 : Int32)), .val (.int c2)] [(.int (2 : Int32))])) _
    exact retI X7 hx Bd.returns (hb hby own_d5_46) hr
  · show own_Q_own_cmp2 Z sa db kc kb c1 c2 h0 n0 _ T7.heap _
    rw [e7]
    exact ⟨rfl, N7, KP, VB⟩
def own_Q_own_cmr2 (Z : State) (sa : Addr) (kc : ClassId) (c1 : Int32) (c2 : Int32) (h0 : Heap) (n0 : Nat) (v : Option Value) (h : Heap) (L : List Loc) : Prop := ∃ (b : Addr) (kb : ClassId), v = some (.ref b) ∧ Fr n0 L ∧ Keep h0 h [] ∧ Arv Z h b kb .byte (2 : Int32) [(.int (c1.toInt8.toInt32)), (.int (c2.toInt8.toInt32))] (.int (0 : Int32)) ∧ h0.size ≤ b
set_option maxRecDepth 65536 in
set_option maxHeartbeats 40000000 in
theorem own_cmr2 (l : Launch) (Z : State) (a0 : Array Value) (hw : ∀ d ∈ tables_1, d.before a0 Z = true) (ws : List Jvm.Cond) (sa : Addr) (kc : ClassId) (c1 : Int32) (c2 : Int32) (h0 : Heap) (n0 : Nat) (Z0 : n0 ≤ h0.size) (V : Arv Z h0 sa kc .char (2 : Int32) [(.int c1), (.int c2)] (.int (0 : Int32))) (hc1 : ¬ ((255 : Int32) < c1)) (hc2 : ¬ ((255 : Int32) < c2)) :
    MetFree l (⟨"java/lang/StringUTF16", "compress", "([CII)[B"⟩ : MethodName) (head1 (Jvm.Cond.code (⟨"java/lang/StringUTF16", "compress", "([CII)[B"⟩ : MethodName) jdk_52_method_16_code 6 (some (.array .byte)) :: ws) ({ frames := 1, cells := 1, slots := 2, locals := 18 } : Room)) (fun as_ U => as_ = #[(.ref sa), (.int (0 : Int32)), (.int (2 : Int32))] ∧ Z.Warmed39 U.vm ∧ U.heap = h0) (fun _ _ _ _ _ => True) (fun _ U o U' => ∃ v L, o = .returned v ∧ own_Q_own_cmr2 Z sa kc c1 c2 h0 n0 v U'.heap L ∧ FrameEnd U o U' L ({ frames := 1, cells := 1, slots := 2, locals := 18 } : Room).cells ({ frames := 1, cells := 1, slots := 2, locals := 18 } : Room).slots) := by
  refine MetFree.of_bodySF (plainFor_of_name own_pn0) hisR ?_
  intro p e s m args below meth c s₁ Bd hml0 hP hK
  obtain ⟨rfl, hZ, hh⟩ := hP
  have hx := Bd.exec
  have hby := Bd.bytes
  have hml : c.maxLocals = 6 := hml0
  have hown : s.vm.findClass "java/lang/StringUTF16" = some m.cls := findClass_of_methodNamed Bd.named
  have hnm := (name_of_methodNamed Bd.named Bd.method).1
  have X0 : Stand p l e ({ frames := 1, cells := 1, slots := 2, locals := 18 } : Room) s m #[(.ref sa), (.int (0 : Int32)), (.int (2 : Int32))] below meth c s₁ [] 0 0 := Stand.of_body Bd
  have e0 : s₁.heap = h0 := by rw [← hh, Bd.state]; rfl
  have N0 := Fr.nil n0
  have pre0 : ∀ t, Steps p.tables e below (s₁.setTop (mkF m 0 #[.val (.ref sa), .val (.int (0 : Int32)), .val (.int (2 : Int32)), .unset, .unset, .unset] [])) t → Steps p.tables e below (s₁.setTop (entryFrame m #[(.ref sa), (.int (0 : Int32)), (.int (2 : Int32))] 6)) t := fun t k => castTop (own_ef4 m sa (0 : Int32) (2 : Int32)) k
  have KP := Keep.refl h0 ([] : List Addr)
  obtain ⟨T1, h1, k1, X1, e1, E1, A1, st1⟩ := newP X0 hx hZ (hw _ (List.mem_of_getElem? (i := 20) rfl)) e0 (g := (mkF m 1 #[.val (.ref sa), .val (.int (0 : Int32)), .val (.int (2 : Int32)), .unset, .unset, .unset] [(.int (2 : Int32))])) rfl (hb hby own_d4_1) rfl (by decide) (cap := 2) (by decide) (by decide) (by decide) (by decide)
  obtain ⟨b1, g1⟩ : ∃ z, z = h0.size := ⟨_, rfl⟩
  rw [← g1] at A1 st1
  have g_b1 : n0 ≤ b1 := Nat.le_trans Z0 (Nat.le_of_eq g1.symm)
  have sz_b1 : h0.size ≤ b1 := Nat.le_trans KP.1 (Nat.le_of_eq g1.symm)
  have ne_sa_b1 : sa ≠ b1 := Nat.ne_of_lt (Nat.lt_of_lt_of_le V.lt (Nat.le_of_eq g1.symm))
  have V := V.ext E1
  have Z2 : n0 ≤ h1.size := Nat.le_trans Z0 E1.1
  have KP := KP.ext E1
  have V_b1 : Arv Z h1 b1 k1 .byte (2 : Int32) [(.int (0 : Int32)), (.int (0 : Int32))] (.int (0 : Int32)) := (Arv.new A1 (by decide)).pad (pad_rep [] (.int (0 : Int32)) 2)
  obtain ⟨_, _, ⟨T3, L3, k3, n3⟩, -, X3, ⟨Lc3, hQ3, l3, y3, z3⟩, st3⟩ := Jvm.LawKit.callS X1 hx (y := (⟨"java/lang/StringUTF16", "compress", "([CI[BII)I"⟩ : MethodName)) hown (mvT hZ (hw _ (List.mem_of_getElem? (i := 21) rfl))) (mvT hZ (hw _ (List.mem_of_getElem? (i := 22) rfl))) (mvT hZ (hw _ (List.mem_of_getElem? (i := 18) rfl))) (mvT hZ (hw _ (List.mem_of_getElem? (i := 23) rfl))) (by decide) (backOf (W := 0) (own_cmp2 l Z a0 hw [] sa b1 kc k1 c1 c2 h1 n0 Z2 V V_b1 ne_sa_b1 g_b1 hc1 hc2) hZ (hw _ (List.mem_of_getElem? (i := 23) rfl)) (hw _ (List.mem_of_getElem? (i := 18) rfl)) (by decide) (by decide)) (g := (mkF m 9 #[.val (.ref sa), .val (.int (0 : Int32)), .val (.int (2 : Int32)), .val (.ref b1), .unset, .unset] [(.int (2 : Int32)), (.int (0 : Int32)), (.ref b1), (.int (0 : Int32)), (.ref sa)])) rfl (by rw [hml]; rfl) (argsL := [(.ref sa), (.int (0 : Int32)), (.ref b1), (.int (0 : Int32)), (.int (2 : Int32))]) (rest := []) (lenOf own_pd0 rfl) rfl (by show 2 * 0 + _ ≤ _; exact Nat.le_of_eq rfl) (hb hby own_d4_9) (fun _ _ => ⟨rfl, e1, (by decide : 1 + 0 ≤ _), (by decide : 2 + 0 ≤ _)⟩)
  dsimp only [Pt.U, Pt.locs, Pt.cells, Pt.slots] at X3 l3 y3 z3 st3 hQ3
  subst l3 y3 z3
  obtain ⟨rfl, N3q, K3, VB3⟩ := hQ3
  have N3 := Fr.app N0 N3q
  have V := V.keep K3 (ninS ne_sa_b1 nin0)
  have Z4 := Nat.le_trans Z2 K3.1
  have KP := KP.trans K3 (allS (Or.inr sz_b1) all0)
  obtain ⟨fs, hr, hrun, hended, hW, hsame⟩ := X3.leave (v := some (.ref b1)) (fun h => by rw [Bd.returns] at h; cases h)
  refine ⟨_, _, pre0 _ ?_, hrun, hended, _, _, rfl, ?_, ⟨_, rfl⟩, hW, hsame.mono (by decide) (by decide)⟩
  · show Steps p.tables e below (s₁.setTop (mkF m 0 #[.val (.ref sa), .val (.int (0 : Int32)), .val (.int (2 : Int32)), .unset, .unset, .unset] [])) _
    refine XS.iloadN X0.here hx rfl (hb hby own_d4_0) rfl ?_
    show Steps p.tables e below (s₁.setTop (mkF m 1 #[.val (.ref sa), .val (.int (0 : Int32)), .val (.int (2 : Int32)), .unset, .unset, .unset] [(.int (2 : Int32))])) _
    refine st1 _ ?_
    show Steps p.tables e below (T1.setTop (mkF m 3 #[.val (.ref sa), .val (.int (0 : Int32)), .val (.int (2 : Int32)), .unset, .unset, .unset] [(.ref b1)])) _
    refine XS.astoreN X1.here hx rfl (hb hby own_d4_3) rfl rfl (l' := #[.val (.ref sa), .val (.int (0 : Int32)), .val (.int (2 : Int32)), .val (.ref b1), .unset, .unset]) rfl ?_
    show Steps p.tables e below (T1.setTop (mkF m 4 #[.val (.ref sa), .val (.int (0 : Int32)), .val (.int (2 : Int32)), .val (.ref b1), .unset, .unset] [])) _
    refine XS.aloadN X1.here hx rfl (hb hby own_d4_4) rfl rfl ?_
    show Steps p.tables e below (T1.setTop (mkF m 5 #[.val (.ref sa), .val (.int (0 : Int32)), .val (.int (2 : Int32)), .val (.ref b1), .unset, .unset] [(.ref sa)])) _
    refine XS.iloadN X1.here hx rfl (hb hby own_d4_5) rfl ?_
    show Steps p.tables e below (T1.setTop (mkF m 6 #[.val (.ref sa), .val (.int (0 : Int32)), .val (.int (2 : Int32)), .val (.ref b1), .unset, .unset] [(.int (0 : Int32)), (.ref sa)])) _
    refine XS.aloadN X1.here hx rfl (hb hby own_d4_6) rfl rfl ?_
    show Steps p.tables e below (T1.setTop (mkF m 7 #[.val (.ref sa), .val (.int (0 : Int32)), .val (.int (2 : Int32)), .val (.ref b1), .unset, .unset] [(.ref b1), (.int (0 : Int32)), (.ref sa)])) _
    refine XS.iconst X1.here hx rfl (hb hby own_d4_7) ?_
    show Steps p.tables e below (T1.setTop (mkF m 8 #[.val (.ref sa), .val (.int (0 : Int32)), .val (.int (2 : Int32)), .val (.ref b1), .unset, .unset] [(.int (0 : Int32)), (.ref b1), (.int (0 : Int32)), (.ref sa)])) _
    refine XS.iloadN X1.here hx rfl (hb hby own_d4_8) rfl ?_
    show Steps p.tables e below (T1.setTop (mkF m 9 #[.val (.ref sa), .val (.int (0 : Int32)), .val (.int (2 : Int32)), .val (.ref b1), .unset, .unset] [(.int (2 : Int32)), (.int (0 : Int32)), (.ref b1), (.int (0 : Int32)), (.ref sa)])) _
    refine st3 _ ?_
    show Steps p.tables e below (T3.setTop (mkF m 12 #[.val (.ref sa), .val (.int (0 : Int32)), .val (.int (2 : Int32)), .val (.ref b1), .unset, .unset] [(.int (2 : Int32))])) _
    refine XS.istore X3.here hx rfl (hb hby own_d4_12) rfl (l' := #[.val (.ref sa), .val (.int (0 : Int32)), .val (.int (2 : Int32)), .val (.ref b1), .val (.int (2 : Int32)), .unset]) rfl ?_
    show Steps p.tables e below (T3.setTop (mkF m 14 #[.val (.ref sa), .val (.int (0 : Int32)), .val (.int (2 : Int32)), .val (.ref b1), .val (.int (2 : Int32)), .unset] [])) _
    refine XS.iload X3.here hx rfl (hb hby own_d4_14) rfl ?_
    show Steps p.tables e below (T3.setTop (mkF m 16 #[.val (.ref sa), .val (.int (0 : Int32)), .val (.int (2 : Int32)), .val (.ref b1), .val (.int (2 : Int32)), .unset] [(.int (2 : Int32))])) _
    refine XS.iloadN X3.here hx rfl (hb hby own_d4_16) rfl ?_
    show Steps p.tables e below (T3.setTop (mkF m 17 #[.val (.ref sa), .val (.int (0 : Int32)), .val (.int (2 : Int32)), .val (.ref b1), .val (.int (2 : Int32)), .unset] [(.int (2 : Int32)), (.int (2 : Int32))])) _
    refine XS.icmpYes X3.here hx rfl (pc0 := 17) (pc' := 57) rfl (hb hby own_d4_17) rfl (teq (by decide : (2 : Int32) = (2 : Int32))).1 (by decide) (by decide) ?_
    show Steps p.tables e below (T3.setTop (mkF m 57 #[.val (.ref sa), .val (.int (0 : Int32)), .val (.int (2 : Int32)), .val (.ref b1), .val (.int (2 : Int32)), .unset] [])) _
    refine XS.aloadN X3.here hx rfl (hb hby own_d4_57) rfl rfl ?_
    show Steps p.tables e below (T3.setTop (mkF m 58 #[.val (.ref sa), .val (.int (0 : Int32)), .val (.int (2 : Int32)), .val (.ref b1), .val (.int (2 : Int32)), .unset] [(.ref b1)])) _
    exact retOut X3 hx (t := (.array .byte)) Bd.returns rfl (Or.inr (Or.inr (Or.inr (Or.inr ⟨rfl, rfl, rfl⟩)))) (hb hby own_d4_58) hr
  · show own_Q_own_cmr2 Z sa kc c1 c2 h0 n0 _ T3.heap _
    exact ⟨b1, _, rfl, N3, KP, VB3, sz_b1⟩
def own_Q_own_cod2 (Z : State) (db : Addr) (kb : ClassId) (c1 : Int32) (c2 : Int32) (h0 : Heap) (n0 : Nat) (v : Option Value) (h : Heap) (L : List Loc) : Prop := v = some (.int (0 : Int32)) ∧ Fr n0 L ∧ h = h0
set_option maxRecDepth 65536 in
set_option maxHeartbeats 40000000 in
theorem own_cod2 (l : Launch) (Z : State) (a0 : Array Value) (hw : ∀ d ∈ tables_1, d.before a0 Z = true) (ws : List Jvm.Cond) (db : Addr) (kb : ClassId) (c1 : Int32) (c2 : Int32) (h0 : Heap) (n0 : Nat) (Z0 : n0 ≤ h0.size) (VB : Arv Z h0 db kb .byte (2 : Int32) [(.int (c1.toInt8.toInt32)), (.int (c2.toInt8.toInt32))] (.int (0 : Int32))) :
    MetFree l (⟨"java/lang/StringUTF16", "coderFromArrayLen", "([BI)B"⟩ : MethodName) (head1 (Jvm.Cond.code (⟨"java/lang/StringUTF16", "coderFromArrayLen", "([BI)B"⟩ : MethodName) jdk_52_method_15_code 2 (some .byte) :: ws) ({ frames := 0, cells := 0, slots := 0, locals := 0 } : Room)) (fun as_ U => as_ = #[(.ref db), (.int (2 : Int32))] ∧ Z.Warmed39 U.vm ∧ U.heap = h0) (fun _ _ _ _ _ => True) (fun _ U o U' => ∃ v L, o = .returned v ∧ own_Q_own_cod2 Z db kb c1 c2 h0 n0 v U'.heap L ∧ FrameEnd U o U' L ({ frames := 0, cells := 0, slots := 0, locals := 0 } : Room).cells ({ frames := 0, cells := 0, slots := 0, locals := 0 } : Room).slots) := by
  refine MetFree.of_bodySF (plainFor_of_name own_pn0) hisR ?_
  intro p e s m args below meth c s₁ Bd hml0 hP hK
  obtain ⟨rfl, hZ, hh⟩ := hP
  have hx := Bd.exec
  have hby := Bd.bytes
  have hml : c.maxLocals = 2 := hml0
  have hown : s.vm.findClass "java/lang/StringUTF16" = some m.cls := findClass_of_methodNamed Bd.named
  have hnm := (name_of_methodNamed Bd.named Bd.method).1
  have X0 : Stand p l e ({ frames := 0, cells := 0, slots := 0, locals := 0 } : Room) s m #[(.ref db), (.int (2 : Int32))] below meth c s₁ [] 0 0 := Stand.of_body Bd
  have e0 : s₁.heap = h0 := by rw [← hh, Bd.state]; rfl
  have N0 := Fr.nil n0
  have pre0 : ∀ t, Steps p.tables e below (s₁.setTop (mkF m 0 #[.val (.ref db), .val (.int (2 : Int32))] [])) t → Steps p.tables e below (s₁.setTop (entryFrame m #[(.ref db), (.int (2 : Int32))] 2)) t := fun t k => castTop (own_ef6 m db (2 : Int32)) k
  obtain ⟨cl1, Ar1, q1, S1, M1, H1, G1⟩ := id VB
  obtain ⟨fs, hr, hrun, hended, hW, hsame⟩ := X0.leave (v := some (.int (nar .byte ((((0 : Int32).toUInt32 >>> ((31 : Int32) &&& 31).toUInt32).toInt32).toInt8.toInt32)))) (fun h => by rw [Bd.returns] at h; cases h)
  refine ⟨_, _, pre0 _ ?_, hrun, hended, _, _, rfl, ?_, ⟨_, rfl⟩, hW, hsame.mono (by decide) (by decide)⟩
  · show Steps p.tables e below (s₁.setTop (mkF m 0 #[.val (.ref db), .val (.int (2 : Int32))] [])) _
    refine XS.iloadN X0.here hx rfl (hb hby own_d6_0) rfl ?_
    show Steps p.tables e below (s₁.setTop (mkF m 1 #[.val (.ref db), .val (.int (2 : Int32))] [(.int (2 : Int32))])) _
    refine XS.aloadN X0.here hx rfl (hb hby own_d6_1) rfl rfl ?_
    show Steps p.tables e below (s₁.setTop (mkF m 2 #[.val (.ref db), .val (.int (2 : Int32))] [(.ref db), (.int (2 : Int32))])) _
    refine X0.arraylength hx (by rw [e0]; exact Ar1.1) (State.isArrayOf_alike hZ.alike Ar1.2.1) (g := (mkF m 2 #[.val (.ref db), .val (.int (2 : Int32))] [(.ref db), (.int (2 : Int32))])) rfl rfl (hb hby own_d6_2) _ ?_
    rw [len_of S1 M1]
    show Steps p.tables e below (s₁.setTop (mkF m 3 #[.val (.ref db), .val (.int (2 : Int32))] [(.int (2 : Int32)), (.int (2 : Int32))])) _
    refine XS.isub X0.here hx rfl (hb hby own_d6_3) rfl ?_
    show Steps p.tables e below (s₁.setTop (mkF m 4 #[.val (.ref db), .val (.int (2 : Int32))] [(.int (0 : Int32))])) _
    refine XS.bipush X0.here hx rfl (hb hby own_d6_4) ?_
    show Steps p.tables e below (s₁.setTop (mkF m 6 #[.val (.ref db), .val (.int (2 : Int32))] [(.int (31 : Int32)), (.int (0 : Int32))])) _
    refine XS.iushr X0.here hx rfl (hb hby own_d6_6) rfl ?_
    show Steps p.tables e below (s₁.setTop (mkF m 7 #[.val (.ref db), .val (.int (2 : Int32))] [(.int (((0 : Int32).toUInt32 >>> ((31 : Int32) &&& 31).toUInt32).toInt32))])) _
    refine XS.i2b X0.here hx rfl (hb hby own_d6_7) rfl ?_
    show Steps p.tables e below (s₁.setTop (mkF m 8 #[.val (.ref db), .val (.int (2 : Int32))] [(.int ((((0 : Int32).toUInt32 >>> ((31 : Int32) &&& 31).toUInt32).toInt32).toInt8.toInt32))])) _
    exact retN X0 hx (t := .byte) Bd.returns (by simp) (hb hby own_d6_8) hr
  · show own_Q_own_cod2 Z db kb c1 c2 h0 n0 _ s₁.heap _
    rw [e0]
    exact ⟨own_iv (by decide), N0, rfl⟩
def own_Q_own_siv2 (Z : State) (a : Addr) (sa : Addr) (kc : ClassId) (cz : Int32) (c1 : Int32) (c2 : Int32) (h0 : Heap) (n0 : Nat) (v : Option Value) (h : Heap) (L : List Loc) : Prop := ∃ (b : Addr) (kb : ClassId), v = none ∧ Fr n0 L ∧ Keep h0 h [a] ∧ Exa Z h a "java/lang/String" ∧ Fld Z h a "java/lang/String" "coder" "B" (.int (0 : Int32)) ∧ Fld Z h a "java/lang/String" "value" "[B" (.ref b) ∧ Arv Z h b kb .byte (2 : Int32) [(.int (c1.toInt8.toInt32)), (.int (c2.toInt8.toInt32))] (.int (0 : Int32)) ∧ h0.size ≤ b
set_option maxRecDepth 65536 in
set_option maxHeartbeats 40000000 in
theorem own_siv2 (l : Launch) (Z : State) (a0 : Array Value) (hw : ∀ d ∈ tables_1, d.before a0 Z = true) (ws : List Jvm.Cond) (a : Addr) (sa : Addr) (kc : ClassId) (cz : Int32) (c1 : Int32) (c2 : Int32) (h0 : Heap) (n0 : Nat) (Z0 : n0 ≤ h0.size) (E : Exa Z h0 a "java/lang/String") (Fco : Fld Z h0 a "java/lang/String" "coder" "B" (.int (0 : Int32))) (Fva : Fld Z h0 a "java/lang/String" "value" "[B" .null) (g : n0 ≤ a) (V : Arv Z h0 sa kc .char (2 : Int32) [(.int c1), (.int c2)] (.int (0 : Int32))) (hc1 : ¬ ((255 : Int32) < c1)) (hc2 : ¬ ((255 : Int32) < c2)) (S : Sta Z h0 "java/lang/String" "COMPACT_STRINGS" "Z" (.int cz)) (hcz : ¬ (cz = (0 : Int32))) :
    MetFree l (⟨"java/lang/String", "<init>", "([CIILjava/lang/Void;)V"⟩ : MethodName) (head1 (Jvm.Cond.code (⟨"java/lang/String", "<init>", "([CIILjava/lang/Void;)V"⟩ : MethodName) jdk_42_method_149_code 6 none :: ws) ({ frames := 2, cells := 1, slots := 2, locals := 35 } : Room)) (fun as_ U => as_ = #[(.ref a), (.ref sa), (.int (0 : Int32)), (.int (2 : Int32)), .null] ∧ Z.Warmed39 U.vm ∧ U.heap = h0) (fun _ _ _ _ _ => True) (fun _ U o U' => ∃ v L, o = .returned v ∧ own_Q_own_siv2 Z a sa kc cz c1 c2 h0 n0 v U'.heap L ∧ FrameEnd U o U' L ({ frames := 2, cells := 1, slots := 2, locals := 35 } : Room).cells ({ frames := 2, cells := 1, slots := 2, locals := 35 } : Room).slots) := by
  refine MetFree.of_bodySF (plainFor_of_name own_pn1) hisR ?_
  intro p e s m args below meth c s₁ Bd hml0 hP hK
  obtain ⟨rfl, hZ, hh⟩ := hP
  have hx := Bd.exec
  have hby := Bd.bytes
  have hml : c.maxLocals = 6 := hml0
  have hown : s.vm.findClass "java/lang/String" = some m.cls := findClass_of_methodNamed Bd.named
  have hnm := (name_of_methodNamed Bd.named Bd.method).1
  have X0 : Stand p l e ({ frames := 2, cells := 1, slots := 2, locals := 35 } : Room) s m #[(.ref a), (.ref sa), (.int (0 : Int32)), (.int (2 : Int32)), .null] below meth c s₁ [] 0 0 := Stand.of_body Bd
  have e0 : s₁.heap = h0 := by rw [← hh, Bd.state]; rfl
  have N0 := Fr.nil n0
  have pre0 : ∀ t, Steps p.tables e below (s₁.setTop (mkF m 0 #[.val (.ref a), .val (.ref sa), .val (.int (0 : Int32)), .val (.int (2 : Int32)), .val .null, .unset] [])) t → Steps p.tables e below (s₁.setTop (entryFrame m #[(.ref a), (.ref sa), (.int (0 : Int32)), (.int (2 : Int32)), .null] 6)) t := fun t k => castTop (own_ef2_4 m a sa (0 : Int32) (2 : Int32)) k
  have KP := Keep.refl h0 ([a] : List Addr)
  obtain ⟨T1, X1, e1, st1⟩ := initO X0 hx hZ hown (hw _ (List.mem_of_getElem? (i := 12) rfl)) (hw _ (List.mem_of_getElem? (i := 13) rfl)) (hw _ (List.mem_of_getElem? (i := 14) rfl)) e0 (g := (mkF m 1 #[.val (.ref a), .val (.ref sa), .val (.int (0 : Int32)), .val (.int (2 : Int32)), .val .null, .unset] [(.ref a)])) rfl (by rw [hml]; rfl) rfl (hb hby own_d2_1) (by decide) (W := 0) (by show 2 * 0 + _ ≤ _; exact Nat.le_of_eq rfl) (by decide)
  obtain ⟨T2, X2, e2, st2⟩ := getS2 X1 hx hZ hown (host := "") (Or.inl (hw _ (List.mem_of_getElem? (i := 15) rfl))) Via.refl e1 S (g := (mkF m 27 #[.val (.ref a), .val (.ref sa), .val (.int (0 : Int32)), .val (.int (2 : Int32)), .val .null, .unset] [])) rfl (hb hby own_d2_27)
  obtain ⟨_, _, ⟨T3, L3, k3, n3⟩, -, X3, ⟨Lc3, hQ3, l3, y3, z3⟩, st3⟩ := Jvm.LawKit.callS X2 hx (y := (⟨"java/lang/StringUTF16", "compress", "([CII)[B"⟩ : MethodName)) hown (mvT hZ (hw _ (List.mem_of_getElem? (i := 16) rfl))) (mvT hZ (hw _ (List.mem_of_getElem? (i := 17) rfl))) (mvT hZ (hw _ (List.mem_of_getElem? (i := 18) rfl))) (mvT hZ (hw _ (List.mem_of_getElem? (i := 19) rfl))) (by decide) (backOf (W := 0) (own_cmr2 l Z a0 hw [] sa kc c1 c2 h0 n0 Z0 V hc1 hc2) hZ (hw _ (List.mem_of_getElem? (i := 19) rfl)) (hw _ (List.mem_of_getElem? (i := 18) rfl)) (by decide) (by decide)) (g := (mkF m 36 #[.val (.ref a), .val (.ref sa), .val (.int (0 : Int32)), .val (.int (2 : Int32)), .val .null, .unset] [(.int (2 : Int32)), (.int (0 : Int32)), (.ref sa)])) rfl (by rw [hml]; rfl) (argsL := [(.ref sa), (.int (0 : Int32)), (.int (2 : Int32))]) (rest := []) (lenOf own_pd1 rfl) rfl (by show 2 * 0 + _ ≤ _; exact Nat.le_of_eq rfl) (hb hby own_d2_36) (fun _ _ => ⟨rfl, e2, (by decide : 0 + 1 ≤ _), (by decide : 0 + 2 ≤ _)⟩)
  dsimp only [Pt.U, Pt.locs, Pt.cells, Pt.slots] at X3 l3 y3 z3 st3 hQ3
  subst l3 y3 z3
  obtain ⟨b3, kb3, rfl, N3q, K3, VB3, sz3⟩ := hQ3
  have N3 := Fr.app N0 N3q
  have g_b3 : n0 ≤ b3 := Nat.le_trans Z0 sz3
  have sz_b3 : h0.size ≤ b3 := Nat.le_trans KP.1 sz3
  have ne_a_b3 : a ≠ b3 := Nat.ne_of_lt (Nat.lt_of_lt_of_le E.lt sz3)
  have ne_sa_b3 : sa ≠ b3 := Nat.ne_of_lt (Nat.lt_of_lt_of_le V.lt sz3)
  have E := E.keep K3
  have Fco := Fco.keep K3 nin0
  have Fva := Fva.keep K3 nin0
  have V := V.keep K3 nin0
  have Z4 := Nat.le_trans Z0 K3.1
  have KP := KP.trans K3 all0
  obtain ⟨_, _, ⟨T5, L5, k5, n5⟩, -, X5, ⟨Lc5, hQ5, l5, y5, z5⟩, st5⟩ := Jvm.LawKit.callS X3 hx (y := (⟨"java/lang/StringUTF16", "coderFromArrayLen", "([BI)B"⟩ : MethodName)) hown (mvT hZ (hw _ (List.mem_of_getElem? (i := 24) rfl))) (mvT hZ (hw _ (List.mem_of_getElem? (i := 25) rfl))) (mvT hZ (hw _ (List.mem_of_getElem? (i := 18) rfl))) (mvT hZ (hw _ (List.mem_of_getElem? (i := 26) rfl))) (by decide) (backOf (W := 1) (own_cod2 l Z a0 hw [] b3 kb3 c1 c2 T3.heap n0 Z4 VB3) hZ (hw _ (List.mem_of_getElem? (i := 26) rfl)) (hw _ (List.mem_of_getElem? (i := 18) rfl)) (by decide) (by decide)) (g := (mkF m 45 #[.val (.ref a), .val (.ref sa), .val (.int (0 : Int32)), .val (.int (2 : Int32)), .val .null, .val (.ref b3)] [(.int (2 : Int32)), (.ref b3), (.ref a)])) rfl (by rw [hml]; rfl) (argsL := [(.ref b3), (.int (2 : Int32))]) (rest := [(.ref a)]) (lenOf own_pd2 rfl) rfl (by show 2 * 0 + _ ≤ _; exact Nat.le_of_eq rfl) (hb hby own_d2_45) (fun _ _ => ⟨rfl, rfl, (by decide : 1 + 0 ≤ _), (by decide : 2 + 0 ≤ _)⟩)
  dsimp only [Pt.U, Pt.locs, Pt.cells, Pt.slots] at X5 l5 y5 z5 st5 hQ5
  subst l5 y5 z5
  obtain ⟨rfl, N5q, e5⟩ := hQ5
  have N5 := Fr.app N3 N5q
  obtain ⟨T6, h6, X6, e6, W6, st6⟩ := putFN X5 hx hZ hown (hw _ (List.mem_of_getElem? (i := 27) rfl)) Via.refl e5 Fco E (Or.inr ⟨(hw _ (List.mem_of_getElem? (i := 28) rfl)), rfl, hnm⟩) (hw _ (List.mem_of_getElem? (i := 2) rfl)) (ty := .byte) (v' := .int (nar .byte (0 : Int32))) (by decide) rfl (fits_nar_byte _) (g := (mkF m 48 #[.val (.ref a), .val (.ref sa), .val (.int (0 : Int32)), .val (.int (2 : Int32)), .val .null, .val (.ref b3)] [(.int (0 : Int32)), (.ref a)])) rfl rfl (hb hby own_d2_48)
  rw [(show nar .byte (0 : Int32) = (0 : Int32) from by decide)] at W6
  have E := E.wr W6
  have Fva := Fva.other W6 (Or.inr (slot_ne (Or.inr (hw _ (List.mem_of_getElem? (i := 30) rfl))) (Or.inr (hw _ (List.mem_of_getElem? (i := 28) rfl))) (by decide) (t := (.array .byte)) (t' := .byte) (by decide) (by decide)))
  have VB3 := VB3.other W6 (Ne.symm ne_a_b3)
  have Z7 : n0 ≤ h6.size := Nat.le_trans Z4 (Keep.of_wr W6).1
  have KP := KP.wr W6 (Or.inl (List.mem_of_getElem? (i := 0) rfl))
  have Fco := Fco.same W6
  have N6 := Fr.snoc X6 N5 g
  obtain ⟨T8, h8, X8, e8, W8, st8⟩ := putF X6 hx hZ hown (host := "") (Or.inl (hw _ (List.mem_of_getElem? (i := 29) rfl))) Via.refl e6 Fva E (Or.inr ⟨(hw _ (List.mem_of_getElem? (i := 30) rfl)), rfl, hnm⟩) (hw _ (List.mem_of_getElem? (i := 2) rfl)) (ty := (.array .byte)) (by decide) rfl rfl (g := (mkF m 54 #[.val (.ref a), .val (.ref sa), .val (.int (0 : Int32)), .val (.int (2 : Int32)), .val .null, .val (.ref b3)] [(.ref b3), (.ref a)])) rfl rfl (hb hby own_d2_54)
  have E := E.wr W8
  have Fco := Fco.other W8 (Or.inr (slot_ne (Or.inr (hw _ (List.mem_of_getElem? (i := 28) rfl))) (Or.inr (hw _ (List.mem_of_getElem? (i := 30) rfl))) (by decide) (t := .byte) (t' := (.array .byte)) (by decide) (by decide)))
  have VB3 := VB3.other W8 (Ne.symm ne_a_b3)
  have Z9 : n0 ≤ h8.size := Nat.le_trans Z7 (Keep.of_wr W8).1
  have KP := KP.wr W8 (Or.inl (List.mem_of_getElem? (i := 0) rfl))
  have Fva := Fva.same W8
  have N8 := Fr.snoc X8 N6 g
  obtain ⟨fs, hr, hrun, hended, hW, hsame⟩ := X8.leave (v := none) (fun _ => rfl)
  refine ⟨_, _, pre0 _ ?_, hrun, hended, _, _, rfl, ?_, ⟨_, rfl⟩, hW, hsame.mono (by decide) (by decide)⟩
  · show Steps p.tables e below (s₁.setTop (mkF m 0 #[.val (.ref a), .val (.ref sa), .val (.int (0 : Int32)), .val (.int (2 : Int32)), .val .null, .unset] [])) _
    refine XS.aloadN X0.here hx rfl (hb hby own_d2_0) rfl rfl ?_
    show Steps p.tables e below (s₁.setTop (mkF m 1 #[.val (.ref a), .val (.ref sa), .val (.int (0 : Int32)), .val (.int (2 : Int32)), .val .null, .unset] [(.ref a)])) _
    refine st1 _ ?_
    show Steps p.tables e below (T1.setTop (mkF m 4 #[.val (.ref a), .val (.ref sa), .val (.int (0 : Int32)), .val (.int (2 : Int32)), .val .null, .unset] [])) _
    refine XS.iloadN X1.here hx rfl (hb hby own_d2_4) rfl ?_
    show Steps p.tables e below (T1.setTop (mkF m 5 #[.val (.ref a), .val (.ref sa), .val (.int (0 : Int32)), .val (.int (2 : Int32)), .val .null, .unset] [(.int (2 : Int32))])) _
    refine XS.ifYes X1.here hx rfl (pc0 := 5) (pc' := 27) rfl (hb hby own_d2_5) rfl ((if0 _ _).trans (feq (by decide : ¬ ((2 : Int32) = (0 : Int32)))).2) (by decide) (by decide) ?_
    show Steps p.tables e below (T1.setTop (mkF m 27 #[.val (.ref a), .val (.ref sa), .val (.int (0 : Int32)), .val (.int (2 : Int32)), .val .null, .unset] [])) _
    refine st2 _ ?_
    show Steps p.tables e below (T2.setTop (mkF m 30 #[.val (.ref a), .val (.ref sa), .val (.int (0 : Int32)), .val (.int (2 : Int32)), .val .null, .unset] [(.int cz)])) _
    refine XS.ifNo X2.here hx rfl (hb hby own_d2_30) rfl ((if0 _ _).trans (feq hcz).1) ?_
    show Steps p.tables e below (T2.setTop (mkF m 33 #[.val (.ref a), .val (.ref sa), .val (.int (0 : Int32)), .val (.int (2 : Int32)), .val .null, .unset] [])) _
    refine XS.aloadN X2.here hx rfl (hb hby own_d2_33) rfl rfl ?_
    show Steps p.tables e below (T2.setTop (mkF m 34 #[.val (.ref a), .val (.ref sa), .val (.int (0 : Int32)), .val (.int (2 : Int32)), .val .null, .unset] [(.ref sa)])) _
    refine XS.iloadN X2.here hx rfl (hb hby own_d2_34) rfl ?_
    show Steps p.tables e below (T2.setTop (mkF m 35 #[.val (.ref a), .val (.ref sa), .val (.int (0 : Int32)), .val (.int (2 : Int32)), .val .null, .unset] [(.int (0 : Int32)), (.ref sa)])) _
    refine XS.iloadN X2.here hx rfl (hb hby own_d2_35) rfl ?_
    show Steps p.tables e below (T2.setTop (mkF m 36 #[.val (.ref a), .val (.ref sa), .val (.int (0 : Int32)), .val (.int (2 : Int32)), .val .null, .unset] [(.int (2 : Int32)), (.int (0 : Int32)), (.ref sa)])) _
    refine st3 _ ?_
    show Steps p.tables e below (T3.setTop (mkF m 39 #[.val (.ref a), .val (.ref sa), .val (.int (0 : Int32)), .val (.int (2 : Int32)), .val .null, .unset] [(.ref b3)])) _
    refine XS.astore X3.here hx rfl (hb hby own_d2_39) rfl rfl (l' := #[.val (.ref a), .val (.ref sa), .val (.int (0 : Int32)), .val (.int (2 : Int32)), .val .null, .val (.ref b3)]) rfl ?_
    show Steps p.tables e below (T3.setTop (mkF m 41 #[.val (.ref a), .val (.ref sa), .val (.int (0 : Int32)), .val (.int (2 : Int32)), .val .null, .val (.ref b3)] [])) _
    refine XS.aloadN X3.here hx rfl (hb hby own_d2_41) rfl rfl ?_
    show Steps p.tables e below (T3.setTop (mkF m 42 #[.val (.ref a), .val (.ref sa), .val (.int (0 : Int32)), .val (.int (2 : Int32)), .val .null, .val (.ref b3)] [(.ref a)])) _
    refine XS.aload X3.here hx rfl (hb hby own_d2_42) rfl rfl ?_
    show Steps p.tables e below (T3.setTop (mkF m 44 #[.val (.ref a), .val (.ref sa), .val (.int (0 : Int32)), .val (.int (2 : Int32)), .val .null, .val (.ref b3)] [(.ref b3), (.ref a)])) _
    refine XS.iloadN X3.here hx rfl (hb hby own_d2_44) rfl ?_
    show Steps p.tables e below (T3.setTop (mkF m 45 #[.val (.ref a), .val (.ref sa), .val (.int (0 : Int32)), .val (.int (2 : Int32)), .val .null, .val (.ref b3)] [(.int (2 : Int32)), (.ref b3), (.ref a)])) _
    refine st5 _ ?_
    show Steps p.tables e below (T5.setTop (mkF m 48 #[.val (.ref a), .val (.ref sa), .val (.int (0 : Int32)), .val (.int (2 : Int32)), .val .null, .val (.ref b3)] [(.int (0 : Int32)), (.ref a)])) _
    refine st6 _ ?_
    show Steps p.tables e below (T6.setTop (mkF m 51 #[.val (.ref a), .val (.ref sa), .val (.int (0 : Int32)), .val (.int (2 : Int32)), .val .null, .val (.ref b3)] [])) _
    refine XS.aloadN X6.here hx rfl (hb hby own_d2_51) rfl rfl ?_
    show Steps p.tables e below (T6.setTop (mkF m 52 #[.val (.ref a), .val (.ref sa), .val (.int (0 : Int32)), .val (.int (2 : Int32)), .val .null, .val (.ref b3)] [(.ref a)])) _
    refine XS.aload X6.here hx rfl (hb hby own_d2_52) rfl rfl ?_
    show Steps p.tables e below (T6.setTop (mkF m 54 #[.val (.ref a), .val (.ref sa), .val (.int (0 : Int32)), .val (.int (2 : Int32)), .val .null, .val (.ref b3)] [(.ref b3), (.ref a)])) _
    refine st8 _ ?_
    show Steps p.tables e below (T8.setTop (mkF m 57 #[.val (.ref a), .val (.ref sa), .val (.int (0 : Int32)), .val (.int (2 : Int32)), .val .null, .val (.ref b3)] [])) _
    exact X8.returnOut hx Bd.returns (hb hby own_d2_57) hr
  · show own_Q_own_siv2 Z a sa kc cz c1 c2 h0 n0 _ T8.heap _
    rw [e8]
    exact ⟨b3, _, rfl, N8, KP, E, Fco, Fva, VB3, sz_b3⟩
def own_Q_own_sic2 (Z : State) (a : Addr) (sa : Addr) (kc : ClassId) (cz : Int32) (c1 : Int32) (c2 : Int32) (h0 : Heap) (n0 : Nat) (v : Option Value) (h : Heap) (L : List Loc) : Prop := ∃ (b : Addr) (kb : ClassId), v = none ∧ Fr n0 L ∧ Keep h0 h [a] ∧ Exa Z h a "java/lang/String" ∧ Fld Z h a "java/lang/String" "coder" "B" (.int (0 : Int32)) ∧ Fld Z h a "java/lang/String" "value" "[B" (.ref b) ∧ Arv Z h b kb .byte (2 : Int32) [(.int (c1.toInt8.toInt32)), (.int (c2.toInt8.toInt32))] (.int (0 : Int32)) ∧ h0.size ≤ b
set_option maxRecDepth 65536 in
set_option maxHeartbeats 40000000 in
theorem own_sic2 (l : Launch) (Z : State) (a0 : Array Value) (hw : ∀ d ∈ tables_1, d.before a0 Z = true) (ws : List Jvm.Cond) (a : Addr) (sa : Addr) (kc : ClassId) (cz : Int32) (c1 : Int32) (c2 : Int32) (h0 : Heap) (n0 : Nat) (Z0 : n0 ≤ h0.size) (E : Exa Z h0 a "java/lang/String") (Fco : Fld Z h0 a "java/lang/String" "coder" "B" (.int (0 : Int32))) (Fva : Fld Z h0 a "java/lang/String" "value" "[B" .null) (g : n0 ≤ a) (V : Arv Z h0 sa kc .char (2 : Int32) [(.int c1), (.int c2)] (.int (0 : Int32))) (hc1 : ¬ ((255 : Int32) < c1)) (hc2 : ¬ ((255 : Int32) < c2)) (S : Sta Z h0 "java/lang/String" "COMPACT_STRINGS" "Z" (.int cz)) (hcz : ¬ (cz = (0 : Int32))) :
    MetFree l (⟨"java/lang/String", "<init>", "([C)V"⟩ : MethodName) (head1 (Jvm.Cond.code (⟨"java/lang/String", "<init>", "([C)V"⟩ : MethodName) jdk_42_method_3_code 2 none :: ws) ({ frames := 3, cells := 1, slots := 2, locals := 52 } : Room)) (fun as_ U => as_ = #[(.ref a), (.ref sa)] ∧ Z.Warmed39 U.vm ∧ U.heap = h0) (fun _ _ _ _ _ => True) (fun _ U o U' => ∃ v L, o = .returned v ∧ own_Q_own_sic2 Z a sa kc cz c1 c2 h0 n0 v U'.heap L ∧ FrameEnd U o U' L ({ frames := 3, cells := 1, slots := 2, locals := 52 } : Room).cells ({ frames := 3, cells := 1, slots := 2, locals := 52 } : Room).slots) := by
  refine MetFree.of_bodySF (plainFor_of_name own_pn1) hisR ?_
  intro p e s m args below meth c s₁ Bd hml0 hP hK
  obtain ⟨rfl, hZ, hh⟩ := hP
  have hx := Bd.exec
  have hby := Bd.bytes
  have hml : c.maxLocals = 2 := hml0
  have hown : s.vm.findClass "java/lang/String" = some m.cls := findClass_of_methodNamed Bd.named
  have hnm := (name_of_methodNamed Bd.named Bd.method).1
  have X0 : Stand p l e ({ frames := 3, cells := 1, slots := 2, locals := 52 } : Room) s m #[(.ref a), (.ref sa)] below meth c s₁ [] 0 0 := Stand.of_body Bd
  have e0 : s₁.heap = h0 := by rw [← hh, Bd.state]; rfl
  have N0 := Fr.nil n0
  have pre0 : ∀ t, Steps p.tables e below (s₁.setTop (mkF m 0 #[.val (.ref a), .val (.ref sa)] [])) t → Steps p.tables e below (s₁.setTop (entryFrame m #[(.ref a), (.ref sa)] 2)) t := fun t k => castTop (own_ef1 m a sa) k
  have KP := Keep.refl h0 ([a] : List Addr)
  obtain ⟨cl1, Ar1, q1, S1, M1, H1, G1⟩ := id V
  obtain ⟨_, _, ⟨T2, L2, k2, n2⟩, -, X2, ⟨Lc2, hQ2, l2, y2, z2⟩, st2⟩ := X0.specialBack hx (y := (⟨"java/lang/String", "<init>", "([CIILjava/lang/Void;)V"⟩ : MethodName)) rfl hown (mvT hZ (hw _ (List.mem_of_getElem? (i := 8) rfl))) (mvT hZ (hw _ (List.mem_of_getElem? (i := 9) rfl))) (mvT hZ (hw _ (List.mem_of_getElem? (i := 11) rfl))) (by decide) (backOf (W := 0) (own_siv2 l Z a0 hw [] a sa kc cz c1 c2 h0 n0 Z0 E Fco Fva g V hc1 hc2 S hcz) hZ (hw _ (List.mem_of_getElem? (i := 11) rfl)) (hw _ (List.mem_of_getElem? (i := 3) rfl)) (by decide) (by decide)) (g := (mkF m 6 #[.val (.ref a), .val (.ref sa)] [.null, (.int (2 : Int32)), (.int (0 : Int32)), (.ref sa), (.ref a)])) rfl (by rw [hml]; rfl) (Steps.refl _) (a := a) (argsL := [(.ref sa), (.int (0 : Int32)), (.int (2 : Int32)), .null]) (rest := []) (lenOf own_pd3 rfl) rfl (by show 2 * 0 + _ ≤ _; exact Nat.le_of_eq rfl) (hb hby own_d1_6) (fun _ _ => ⟨rfl, e0, (by decide : 0 + 1 ≤ _), (by decide : 0 + 2 ≤ _)⟩)
  dsimp only [Pt.U, Pt.locs, Pt.cells, Pt.slots] at X2 l2 y2 z2 st2 hQ2
  subst l2 y2 z2
  obtain ⟨b2, kb2, rfl, N2q, K2, Ee2, Fc2, Fv2, VB2, sz2⟩ := hQ2
  have N2 := Fr.app N0 N2q
  have Z3 := Nat.le_trans Z0 K2.1
  have KP := KP.trans K2 (allS (Or.inl (List.mem_of_getElem? (i := 0) rfl)) all0)
  obtain ⟨fs, hr, hrun, hended, hW, hsame⟩ := X2.leave (v := none) (fun _ => rfl)
  refine ⟨_, _, pre0 _ ?_, hrun, hended, _, _, rfl, ?_, ⟨_, rfl⟩, hW, hsame.mono (by decide) (by decide)⟩
  · show Steps p.tables e below (s₁.setTop (mkF m 0 #[.val (.ref a), .val (.ref sa)] [])) _
    refine XS.aloadN X0.here hx rfl (hb hby own_d1_0) rfl rfl ?_
    show Steps p.tables e below (s₁.setTop (mkF m 1 #[.val (.ref a), .val (.ref sa)] [(.ref a)])) _
    refine XS.aloadN X0.here hx rfl (hb hby own_d1_1) rfl rfl ?_
    show Steps p.tables e below (s₁.setTop (mkF m 2 #[.val (.ref a), .val (.ref sa)] [(.ref sa), (.ref a)])) _
    refine XS.iconst X0.here hx rfl (hb hby own_d1_2) ?_
    show Steps p.tables e below (s₁.setTop (mkF m 3 #[.val (.ref a), .val (.ref sa)] [(.int (0 : Int32)), (.ref sa), (.ref a)])) _
    refine XS.aloadN X0.here hx rfl (hb hby own_d1_3) rfl rfl ?_
    show Steps p.tables e below (s₁.setTop (mkF m 4 #[.val (.ref a), .val (.ref sa)] [(.ref sa), (.int (0 : Int32)), (.ref sa), (.ref a)])) _
    refine X0.arraylength hx (by rw [e0]; exact Ar1.1) (State.isArrayOf_alike hZ.alike Ar1.2.1) (g := (mkF m 4 #[.val (.ref a), .val (.ref sa)] [(.ref sa), (.int (0 : Int32)), (.ref sa), (.ref a)])) rfl rfl (hb hby own_d1_4) _ ?_
    rw [len_of S1 M1]
    show Steps p.tables e below (s₁.setTop (mkF m 5 #[.val (.ref a), .val (.ref sa)] [(.int (2 : Int32)), (.int (0 : Int32)), (.ref sa), (.ref a)])) _
    refine XS.aconstNull X0.here hx rfl (hb hby own_d1_5) ?_
    show Steps p.tables e below (s₁.setTop (mkF m 6 #[.val (.ref a), .val (.ref sa)] [.null, (.int (2 : Int32)), (.int (0 : Int32)), (.ref sa), (.ref a)])) _
    refine st2.trans ?_
    show Steps p.tables e below (T2.setTop (mkF m 9 #[.val (.ref a), .val (.ref sa)] [])) _
    exact X2.returnOut hx Bd.returns (hb hby own_d1_9) hr
  · show own_Q_own_sic2 Z a sa kc cz c1 c2 h0 n0 _ T2.heap _
    exact ⟨b2, kb2, rfl, N2, K2, Ee2, Fc2, Fv2, VB2, sz2⟩
theorem own_d8_0 : decode jdk_30_method_1_code 0 = .ok (.aload_n 0, 1) := by decide +kernel
theorem own_d8_1 : decode jdk_30_method_1_code 1 = .ok (.invokespecial 1, 3) := by decide +kernel
theorem own_d8_4 : decode jdk_30_method_1_code 4 = .ok (.return_, 1) := by decide +kernel
theorem own_pn2 : plainName "java/lang/Record" = true := by first | (simp [plainName, overriddenIn]; done) | decide +kernel
theorem own_ef8 (m : MethodId) (x0 : Addr) : entryFrame m #[(.ref x0)] 1 = mkF m 0 #[.val (.ref x0)] [] := by first | (simp [entryFrame, mkF, argsToLocals, Value.category]; done) | rfl
def own_Q_own_rec (Z : State) (a : Addr) (h0 : Heap) (n0 : Nat) (v : Option Value) (h : Heap) (L : List Loc) : Prop := v = none ∧ Fr n0 L ∧ h = h0
set_option maxRecDepth 65536 in
set_option maxHeartbeats 40000000 in
theorem own_rec (l : Launch) (Z : State) (a0 : Array Value) (hw : ∀ d ∈ tables_1, d.before a0 Z = true) (ws : List Jvm.Cond) (a : Addr) (h0 : Heap) (n0 : Nat) (Z0 : n0 ≤ h0.size) :
    MetFree l (⟨"java/lang/Record", "<init>", "()V"⟩ : MethodName) (head1 (Jvm.Cond.code (⟨"java/lang/Record", "<init>", "()V"⟩ : MethodName) jdk_30_method_1_code 1 none :: ws) ({ frames := 1, cells := 0, slots := 0, locals := 12 } : Room)) (fun as_ U => as_ = #[(.ref a)] ∧ Z.Warmed39 U.vm ∧ U.heap = h0) (fun _ _ _ _ _ => True) (fun _ U o U' => ∃ v L, o = .returned v ∧ own_Q_own_rec Z a h0 n0 v U'.heap L ∧ FrameEnd U o U' L ({ frames := 1, cells := 0, slots := 0, locals := 12 } : Room).cells ({ frames := 1, cells := 0, slots := 0, locals := 12 } : Room).slots) := by
  refine MetFree.of_bodySF (plainFor_of_name own_pn2) hisR ?_
  intro p e s m args below meth c s₁ Bd hml0 hP hK
  obtain ⟨rfl, hZ, hh⟩ := hP
  have hx := Bd.exec
  have hby := Bd.bytes
  have hml : c.maxLocals = 1 := hml0
  have hown : s.vm.findClass "java/lang/Record" = some m.cls := findClass_of_methodNamed Bd.named
  have hnm := (name_of_methodNamed Bd.named Bd.method).1
  have X0 : Stand p l e ({ frames := 1, cells := 0, slots := 0, locals := 12 } : Room) s m #[(.ref a)] below meth c s₁ [] 0 0 := Stand.of_body Bd
  have e0 : s₁.heap = h0 := by rw [← hh, Bd.state]; rfl
  have N0 := Fr.nil n0
  have pre0 : ∀ t, Steps p.tables e below (s₁.setTop (mkF m 0 #[.val (.ref a)] [])) t → Steps p.tables e below (s₁.setTop (entryFrame m #[(.ref a)] 1)) t := fun t k => castTop (own_ef8 m a) k
  obtain ⟨T1, X1, e1, st1⟩ := initO X0 hx hZ hown (hw _ (List.mem_of_getElem? (i := 42) rfl)) (hw _ (List.mem_of_getElem? (i := 13) rfl)) (hw _ (List.mem_of_getElem? (i := 14) rfl)) e0 (g := (mkF m 1 #[.val (.ref a)] [(.ref a)])) rfl (by rw [hml]; rfl) rfl (hb hby own_d8_1) (by decide) (W := 0) (by show 2 * 0 + _ ≤ _; exact Nat.le_of_eq rfl) (by decide)
  obtain ⟨fs, hr, hrun, hended, hW, hsame⟩ := X1.leave (v := none) (fun _ => rfl)
  refine ⟨_, _, pre0 _ ?_, hrun, hended, _, _, rfl, ?_, ⟨_, rfl⟩, hW, hsame.mono (by decide) (by decide)⟩
  · show Steps p.tables e below (s₁.setTop (mkF m 0 #[.val (.ref a)] [])) _
    refine XS.aloadN X0.here hx rfl (hb hby own_d8_0) rfl rfl ?_
    show Steps p.tables e below (s₁.setTop (mkF m 1 #[.val (.ref a)] [(.ref a)])) _
    refine st1 _ ?_
    show Steps p.tables e below (T1.setTop (mkF m 4 #[.val (.ref a)] [])) _
    exact X1.returnOut hx Bd.returns (hb hby own_d8_4) hr
  · show own_Q_own_rec Z a h0 n0 _ T1.heap _
    rw [e1]
    exact ⟨rfl, N0, rfl⟩
theorem own_d9_0 : decode jdk_31_method_11_code 0 = .ok (.aload_n 0, 1) := by decide +kernel
theorem own_d9_1 : decode jdk_31_method_11_code 1 = .ok (.ifnonnull 12, 3) := by decide +kernel
theorem own_d9_13 : decode jdk_31_method_11_code 13 = .ok (.aload_n 0, 1) := by decide +kernel
theorem own_d9_14 : decode jdk_31_method_11_code 14 = .ok (.areturn, 1) := by decide +kernel
theorem own_pn3 : plainName "java/util/Objects" = true := by first | (simp [plainName, overriddenIn]; done) | decide +kernel
theorem own_ef9 (m : MethodId) (x0 : Addr) (x1 : Addr) : entryFrame m #[(.ref x0), (.ref x1)] 2 = mkF m 0 #[.val (.ref x0), .val (.ref x1)] [] := by first | (simp [entryFrame, mkF, argsToLocals, Value.category]; done) | rfl
def own_Q_own_rnn (Z : State) (ob : Addr) (ms : Addr) (h0 : Heap) (n0 : Nat) (v : Option Value) (h : Heap) (L : List Loc) : Prop := v = some (.ref ob) ∧ Fr n0 L ∧ h = h0
set_option maxRecDepth 65536 in
set_option maxHeartbeats 40000000 in
theorem own_rnn (l : Launch) (Z : State) (a0 : Array Value) (hw : ∀ d ∈ tables_1, d.before a0 Z = true) (ws : List Jvm.Cond) (ob : Addr) (ms : Addr) (h0 : Heap) (n0 : Nat) (Z0 : n0 ≤ h0.size) :
    MetFree l (⟨"java/util/Objects", "requireNonNull", "(Ljava/lang/Object;Ljava/lang/String;)Ljava/lang/Object;"⟩ : MethodName) (head1 (Jvm.Cond.code (⟨"java/util/Objects", "requireNonNull", "(Ljava/lang/Object;Ljava/lang/String;)Ljava/lang/Object;"⟩ : MethodName) jdk_31_method_11_code 2 (some (.object "java/lang/Object")) :: ws) ({ frames := 0, cells := 0, slots := 0, locals := 0 } : Room)) (fun as_ U => as_ = #[(.ref ob), (.ref ms)] ∧ Z.Warmed39 U.vm ∧ U.heap = h0) (fun _ _ _ _ _ => True) (fun _ U o U' => ∃ v L, o = .returned v ∧ own_Q_own_rnn Z ob ms h0 n0 v U'.heap L ∧ FrameEnd U o U' L ({ frames := 0, cells := 0, slots := 0, locals := 0 } : Room).cells ({ frames := 0, cells := 0, slots := 0, locals := 0 } : Room).slots) := by
  refine MetFree.of_bodySF (plainFor_of_name own_pn3) hisR ?_
  intro p e s m args below meth c s₁ Bd hml0 hP hK
  obtain ⟨rfl, hZ, hh⟩ := hP
  have hx := Bd.exec
  have hby := Bd.bytes
  have hml : c.maxLocals = 2 := hml0
  have hown : s.vm.findClass "java/util/Objects" = some m.cls := findClass_of_methodNamed Bd.named
  have hnm := (name_of_methodNamed Bd.named Bd.method).1
  have X0 : Stand p l e ({ frames := 0, cells := 0, slots := 0, locals := 0 } : Room) s m #[(.ref ob), (.ref ms)] below meth c s₁ [] 0 0 := Stand.of_body Bd
  have e0 : s₁.heap = h0 := by rw [← hh, Bd.state]; rfl
  have N0 := Fr.nil n0
  have pre0 : ∀ t, Steps p.tables e below (s₁.setTop (mkF m 0 #[.val (.ref ob), .val (.ref ms)] [])) t → Steps p.tables e below (s₁.setTop (entryFrame m #[(.ref ob), (.ref ms)] 2)) t := fun t k => castTop (own_ef9 m ob ms) k
  obtain ⟨fs, hr, hrun, hended, hW, hsame⟩ := X0.leave (v := some (.ref ob)) (fun h => by rw [Bd.returns] at h; cases h)
  refine ⟨_, _, pre0 _ ?_, hrun, hended, _, _, rfl, ?_, ⟨_, rfl⟩, hW, hsame.mono (by decide) (by decide)⟩
  · show Steps p.tables e below (s₁.setTop (mkF m 0 #[.val (.ref ob), .val (.ref ms)] [])) _
    refine XS.aloadN X0.here hx rfl (hb hby own_d9_0) rfl rfl ?_
    show Steps p.tables e below (s₁.setTop (mkF m 1 #[.val (.ref ob), .val (.ref ms)] [(.ref ob)])) _
    refine XS.ifnonnullYes X0.here hx rfl (pc0 := 1) (pc' := 13) rfl (hb hby own_d9_1) rfl (by decide) (by decide) ?_
    show Steps p.tables e below (s₁.setTop (mkF m 13 #[.val (.ref ob), .val (.ref ms)] [])) _
    refine XS.aloadN X0.here hx rfl (hb hby own_d9_13) rfl rfl ?_
    show Steps p.tables e below (s₁.setTop (mkF m 14 #[.val (.ref ob), .val (.ref ms)] [(.ref ob)])) _
    exact retOut X0 hx (t := (.object "java/lang/Object")) Bd.returns rfl (Or.inr (Or.inr (Or.inr (Or.inr ⟨rfl, rfl, rfl⟩)))) (hb hby own_d9_14) hr
  · show own_Q_own_rnn Z ob ms h0 n0 _ s₁.heap _
    rw [e0]
    exact ⟨rfl, N0, rfl⟩
theorem own_d10_0 : decode jdk_42_method_55_code 0 = .ok (.aload_n 0, 1) := by decide +kernel
theorem own_d10_1 : decode jdk_42_method_55_code 1 = .ok (.getfield 9, 3) := by decide +kernel
theorem own_d10_4 : decode jdk_42_method_55_code 4 = .ok (.arraylength, 1) := by decide +kernel
theorem own_d10_5 : decode jdk_42_method_55_code 5 = .ok (.ifCond .ne 7, 3) := by decide +kernel
theorem own_d10_12 : decode jdk_42_method_55_code 12 = .ok (.iconst 0, 1) := by decide +kernel
theorem own_d10_13 : decode jdk_42_method_55_code 13 = .ok (.ireturn, 1) := by decide +kernel
theorem own_ef10 (m : MethodId) (x0 : Addr) : entryFrame m #[(.ref x0)] 1 = mkF m 0 #[.val (.ref x0)] [] := by first | (simp [entryFrame, mkF, argsToLocals, Value.category]; done) | rfl
def own_Q_own_emp1 (Z : State) (sg : Addr) (bv : Addr) (kb : ClassId) (y1 : Int32) (h0 : Heap) (n0 : Nat) (v : Option Value) (h : Heap) (L : List Loc) : Prop := v = some (.int 0) ∧ Fr n0 L ∧ h = h0
set_option maxRecDepth 65536 in
set_option maxHeartbeats 40000000 in
theorem own_emp1 (l : Launch) (Z : State) (a0 : Array Value) (hw : ∀ d ∈ tables_1, d.before a0 Z = true) (ws : List Jvm.Cond) (sg : Addr) (bv : Addr) (kb : ClassId) (y1 : Int32) (h0 : Heap) (n0 : Nat) (Z0 : n0 ≤ h0.size) (Fv : Fld Z h0 sg "java/lang/String" "value" "[B" (.ref bv)) (Vb : Arv Z h0 bv kb .byte (1 : Int32) [(.int y1)] (.int (0 : Int32))) :
    MetFree l (⟨"java/lang/String", "isEmpty", "()Z"⟩ : MethodName) (head1 (Jvm.Cond.code (⟨"java/lang/String", "isEmpty", "()Z"⟩ : MethodName) jdk_42_method_55_code 1 (some .boolean) :: ws) ({ frames := 0, cells := 0, slots := 0, locals := 0 } : Room)) (fun as_ U => as_ = #[(.ref sg)] ∧ Z.Warmed39 U.vm ∧ U.heap = h0) (fun _ _ _ _ _ => True) (fun _ U o U' => ∃ v L, o = .returned v ∧ own_Q_own_emp1 Z sg bv kb y1 h0 n0 v U'.heap L ∧ FrameEnd U o U' L ({ frames := 0, cells := 0, slots := 0, locals := 0 } : Room).cells ({ frames := 0, cells := 0, slots := 0, locals := 0 } : Room).slots) := by
  refine MetFree.of_bodySF (plainFor_of_name own_pn1) hisR ?_
  intro p e s m args below meth c s₁ Bd hml0 hP hK
  obtain ⟨rfl, hZ, hh⟩ := hP
  have hx := Bd.exec
  have hby := Bd.bytes
  have hml : c.maxLocals = 1 := hml0
  have hown : s.vm.findClass "java/lang/String" = some m.cls := findClass_of_methodNamed Bd.named
  have hnm := (name_of_methodNamed Bd.named Bd.method).1
  have X0 : Stand p l e ({ frames := 0, cells := 0, slots := 0, locals := 0 } : Room) s m #[(.ref sg)] below meth c s₁ [] 0 0 := Stand.of_body Bd
  have e0 : s₁.heap = h0 := by rw [← hh, Bd.state]; rfl
  have N0 := Fr.nil n0
  have pre0 : ∀ t, Steps p.tables e below (s₁.setTop (mkF m 0 #[.val (.ref sg)] [])) t → Steps p.tables e below (s₁.setTop (entryFrame m #[(.ref sg)] 1)) t := fun t k => castTop (own_ef10 m sg) k
  obtain ⟨T1, X1, e1, st1⟩ := getF X0 hx hZ hown (host := "") (Or.inl (hw _ (List.mem_of_getElem? (i := 29) rfl))) Via.refl e0 Fv (g := (mkF m 1 #[.val (.ref sg)] [(.ref sg)])) rfl rfl (hb hby own_d10_1)
  obtain ⟨cl2, Ar2, q2, S2, M2, H2, G2⟩ := id Vb
  obtain ⟨fs, hr, hrun, hended, hW, hsame⟩ := X1.leave (v := some (.int (0 : Int32))) (fun h => by rw [Bd.returns] at h; cases h)
  refine ⟨_, _, pre0 _ ?_, hrun, hended, _, _, rfl, ?_, ⟨_, rfl⟩, hW, hsame.mono (by decide) (by decide)⟩
  · show Steps p.tables e below (s₁.setTop (mkF m 0 #[.val (.ref sg)] [])) _
    refine XS.aloadN X0.here hx rfl (hb hby own_d10_0) rfl rfl ?_
    show Steps p.tables e below (s₁.setTop (mkF m 1 #[.val (.ref sg)] [(.ref sg)])) _
    refine st1 _ ?_
    show Steps p.tables e below (T1.setTop (mkF m 4 #[.val (.ref sg)] [(.ref bv)])) _
    refine X1.arraylength hx (by rw [e1]; exact Ar2.1) (State.isArrayOf_alike hZ.alike Ar2.2.1) (g := (mkF m 4 #[.val (.ref sg)] [(.ref bv)])) rfl rfl (hb hby own_d10_4) _ ?_
    rw [len_of S2 M2]
    show Steps p.tables e below (T1.setTop (mkF m 5 #[.val (.ref sg)] [(.int (1 : Int32))])) _
    refine XS.ifYes X1.here hx rfl (pc0 := 5) (pc' := 12) rfl (hb hby own_d10_5) rfl ((if0 _ _).trans (feq (by decide : ¬ ((1 : Int32) = (0 : Int32)))).2) (by decide) (by decide) ?_
    show Steps p.tables e below (T1.setTop (mkF m 12 #[.val (.ref sg)] [])) _
    refine XS.iconst X1.here hx rfl (hb hby own_d10_12) ?_
    show Steps p.tables e below (T1.setTop (mkF m 13 #[.val (.ref sg)] [(.int (0 : Int32))])) _
    exact retN X1 hx (t := .boolean) Bd.returns (by simp) (hb hby own_d10_13) hr
  · show own_Q_own_emp1 Z sg bv kb y1 h0 n0 _ T1.heap _
    rw [e1]
    exact ⟨rfl, N0, rfl⟩
theorem own_pd4 : parseMethodDescriptor "()V" = some ⟨[], none⟩ := by decide +kernel
theorem own_pd5 : parseMethodDescriptor "(Ljava/lang/Object;Ljava/lang/String;)Ljava/lang/Object;" = some ⟨[(.object "java/lang/Object"), (.object "java/lang/String")], some (.object "java/lang/Object")⟩ := by decide +kernel
theorem own_pd6 : parseMethodDescriptor "()Z" = some ⟨[], some .boolean⟩ := by decide +kernel
theorem own_d7_0 : decode prog_59_method_1_code 0 = .ok (.aload_n 0, 1) := by decide +kernel
theorem own_d7_1 : decode prog_59_method_1_code 1 = .ok (.invokespecial 1, 3) := by decide +kernel
theorem own_d7_4 : decode prog_59_method_1_code 4 = .ok (.aload_n 1, 1) := by decide +kernel
theorem own_d7_5 : decode prog_59_method_1_code 5 = .ok (.ldc 7, 2) := by decide +kernel
theorem own_d7_7 : decode prog_59_method_1_code 7 = .ok (.invokestatic 9, 3) := by decide +kernel
theorem own_d7_10 : decode prog_59_method_1_code 10 = .ok (.pop, 1) := by decide +kernel
theorem own_d7_11 : decode prog_59_method_1_code 11 = .ok (.aload_n 1, 1) := by decide +kernel
theorem own_d7_12 : decode prog_59_method_1_code 12 = .ok (.invokevirtual 15, 3) := by decide +kernel
theorem own_d7_15 : decode prog_59_method_1_code 15 = .ok (.ifCond .ne 7, 3) := by decide +kernel
theorem own_d7_18 : decode prog_59_method_1_code 18 = .ok (.iload_n 2, 1) := by decide +kernel
theorem own_d7_19 : decode prog_59_method_1_code 19 = .ok (.ifCond .ge 18, 3) := by decide +kernel
theorem own_d7_37 : decode prog_59_method_1_code 37 = .ok (.aload_n 0, 1) := by decide +kernel
theorem own_d7_38 : decode prog_59_method_1_code 38 = .ok (.aload_n 1, 1) := by decide +kernel
theorem own_d7_39 : decode prog_59_method_1_code 39 = .ok (.putfield 30, 3) := by decide +kernel
theorem own_d7_42 : decode prog_59_method_1_code 42 = .ok (.aload_n 0, 1) := by decide +kernel
theorem own_d7_43 : decode prog_59_method_1_code 43 = .ok (.iload_n 2, 1) := by decide +kernel
theorem own_d7_44 : decode prog_59_method_1_code 44 = .ok (.putfield 35, 3) := by decide +kernel
theorem own_d7_47 : decode prog_59_method_1_code 47 = .ok (.return_, 1) := by decide +kernel
theorem own_pn4 : plainName "com/example/vigilant_consumer/vigilantconsumer/TopicPartition" = true := by first | (simp [plainName, overriddenIn]; done) | decide +kernel
theorem own_ef7 (m : MethodId) (x0 : Addr) (x1 : Addr) (x2 : Int32) : entryFrame m #[(.ref x0), (.ref x1), (.int x2)] 3 = mkF m 0 #[.val (.ref x0), .val (.ref x1), .val (.int x2)] [] := by first | (simp [entryFrame, mkF, argsToLocals, Value.category]; done) | rfl
def own_Q_own_init1 (Z : State) (a : Addr) (sg : Addr) (pp : Int32) (bv : Addr) (kb : ClassId) (y1 : Int32) (h0 : Heap) (n0 : Nat) (v : Option Value) (h : Heap) (L : List Loc) : Prop := v = none ∧ Fr n0 L ∧ Keep h0 h [a] ∧ Exa Z h a "com/example/vigilant_consumer/vigilantconsumer/TopicPartition" ∧ Fld Z h a "com/example/vigilant_consumer/vigilantconsumer/TopicPartition" "topic" "Ljava/lang/String;" (.ref sg) ∧ Fld Z h a "com/example/vigilant_consumer/vigilantconsumer/TopicPartition" "partition" "I" (.int pp)
set_option maxRecDepth 65536 in
set_option maxHeartbeats 40000000 in
theorem own_init1 (l : Launch) (Z : State) (a0 : Array Value) (hw : ∀ d ∈ tables_1, d.before a0 Z = true) (ws : List Jvm.Cond) (a : Addr) (sg : Addr) (pp : Int32) (bv : Addr) (kb : ClassId) (y1 : Int32) (h0 : Heap) (n0 : Nat) (Z0 : n0 ≤ h0.size) (E : Exa Z h0 a "com/example/vigilant_consumer/vigilantconsumer/TopicPartition") (Ft : Fld Z h0 a "com/example/vigilant_consumer/vigilantconsumer/TopicPartition" "topic" "Ljava/lang/String;" .null) (Fp : Fld Z h0 a "com/example/vigilant_consumer/vigilantconsumer/TopicPartition" "partition" "I" (.int (0 : Int32))) (g : n0 ≤ a) (Es : Exa Z h0 sg "java/lang/String") (Fv : Fld Z h0 sg "java/lang/String" "value" "[B" (.ref bv)) (Vb : Arv Z h0 bv kb .byte (1 : Int32) [(.int y1)] (.int (0 : Int32))) (hp : ¬ (pp < (0 : Int32))) :
    MetFree l (⟨"com/example/vigilant_consumer/vigilantconsumer/TopicPartition", "<init>", "(Ljava/lang/String;I)V"⟩ : MethodName) (head1 (Jvm.Cond.code (⟨"com/example/vigilant_consumer/vigilantconsumer/TopicPartition", "<init>", "(Ljava/lang/String;I)V"⟩ : MethodName) prog_59_method_1_code 3 none :: ws) ({ frames := 2, cells := 2, slots := 24, locals := 24 } : Room)) (fun as_ U => as_ = #[(.ref a), (.ref sg), (.int pp)] ∧ Z.Warmed39 U.vm ∧ U.heap = h0) (fun _ _ _ _ _ => True) (fun _ U o U' => ∃ v L, o = .returned v ∧ own_Q_own_init1 Z a sg pp bv kb y1 h0 n0 v U'.heap L ∧ ReturnedEndW U o U' L ({ frames := 2, cells := 2, slots := 24, locals := 24 } : Room).cells ({ frames := 2, cells := 2, slots := 24, locals := 24 } : Room).slots) := by
  refine MetFree.of_bodySF (plainFor_of_name own_pn4) hisR ?_
  intro p e s m args below meth c s₁ Bd hml0 hP hK
  obtain ⟨rfl, hZ, hh⟩ := hP
  have hx := Bd.exec
  have hby := Bd.bytes
  have hml : c.maxLocals = 3 := hml0
  have hown : s.vm.findClass "com/example/vigilant_consumer/vigilantconsumer/TopicPartition" = some m.cls := findClass_of_methodNamed Bd.named
  have hnm := (name_of_methodNamed Bd.named Bd.method).1
  have X0 : Stand p l e ({ frames := 2, cells := 2, slots := 24, locals := 24 } : Room) (s.setVm s.vm) m #[(.ref a), (.ref sg), (.int pp)] below meth c s₁ [] 0 0 := Stand.of_body Bd
  have e0 : s₁.heap = h0 := by rw [← hh, Bd.state]; rfl
  have N0 := Fr.nil n0
  have pre0 : ∀ t, Steps p.tables e below (s₁.setTop (mkF m 0 #[.val (.ref a), .val (.ref sg), .val (.int pp)] [])) t → Steps p.tables e below (s₁.setTop (entryFrame m #[(.ref a), (.ref sg), (.int pp)] 3)) t := fun t k => castTop (own_ef7 m a sg pp) k
  have hS : s.Since s.vm 0 := (State.WarmedH.refl s).since 0
  have hk : 0 ≤ h0.size := Nat.zero_le _
  have hZ : Z.Warmed39 (s.setVm s.vm).vm := hZ
  have hown : (s.setVm s.vm).vm.findClass "com/example/vigilant_consumer/vigilantconsumer/TopicPartition" = some m.cls := hown
  have KP := Keep.refl h0 ([a] : List Addr)
  obtain ⟨_, _, ⟨T1, L1, k1, n1⟩, -, X1, ⟨Lc1, hQ1, l1, y1, z1⟩, st1⟩ := X0.specialBack hx (y := (⟨"java/lang/Record", "<init>", "()V"⟩ : MethodName)) rfl hown (mvT hZ (hw _ (List.mem_of_getElem? (i := 37) rfl))) (mvT hZ (hw _ (List.mem_of_getElem? (i := 38) rfl))) (mvT hZ (hw _ (List.mem_of_getElem? (i := 41) rfl))) (by decide) (backOf (W := 0) (own_rec l Z a0 hw [] a  h0 n0 Z0 ) hZ (hw _ (List.mem_of_getElem? (i := 41) rfl)) (hw _ (List.mem_of_getElem? (i := 40) rfl)) (by decide) (by decide)) (g := (mkF m 1 #[.val (.ref a), .val (.ref sg), .val (.int pp)] [(.ref a)])) rfl (by rw [hml]; rfl) (Steps.refl _) (a := a) (argsL := []) (rest := []) (lenOf own_pd4 rfl) rfl (by show 2 * 0 + _ ≤ _; exact Nat.le_of_eq rfl) (hb hby own_d7_1) (fun _ _ => ⟨rfl, e0, (by decide : 0 + 0 ≤ _), (by decide : 0 + 0 ≤ _)⟩)
  dsimp only [Pt.U, Pt.locs, Pt.cells, Pt.slots] at X1 l1 y1 z1 st1 hQ1
  subst l1 y1 z1
  obtain ⟨rfl, N1q, e1⟩ := hQ1
  have N1 := Fr.app N0 N1q
  obtain ⟨a2, T2, h2, k2, X2, e2, E2, hS, hk, hZ, hown, st2⟩ := ldcS X1 hx hZ hown (hw _ (List.mem_of_getElem? (i := 43) rfl)) (own_wS hw) e1 hS hk (g := (mkF m 5 #[.val (.ref a), .val (.ref sg), .val (.int pp)] [(.ref sg)])) rfl (hb hby own_d7_5) (n := 20) (by decide) (by decide) (by decide) (by decide)
  have E := E.ext E2
  have Ft := Ft.ext E2
  have Fp := Fp.ext E2
  have Es := Es.ext E2
  have Fv := Fv.ext E2
  have Vb := Vb.ext E2
  have Z3 : n0 ≤ h2.size := Nat.le_trans Z0 E2.1
  have KP := KP.ext E2
  obtain ⟨_, _, ⟨T4, L4, k4, n4⟩, -, X4, ⟨Lc4, hQ4, l4, y4, z4⟩, st4⟩ := Jvm.LawKit.callS X2 hx (y := (⟨"java/util/Objects", "requireNonNull", "(Ljava/lang/Object;Ljava/lang/String;)Ljava/lang/Object;"⟩ : MethodName)) hown (mvT hZ (hw _ (List.mem_of_getElem? (i := 46) rfl))) (mvT hZ (hw _ (List.mem_of_getElem? (i := 47) rfl))) (mvT hZ (hw _ (List.mem_of_getElem? (i := 48) rfl))) (mvT hZ (hw _ (List.mem_of_getElem? (i := 49) rfl))) (by decide) (backOf (W := 0) (own_rnn l Z a0 hw [] sg a2  h2 n0 Z3 ) hZ (hw _ (List.mem_of_getElem? (i := 49) rfl)) (hw _ (List.mem_of_getElem? (i := 48) rfl)) (by decide) (by decide)) (g := (mkF m 7 #[.val (.ref a), .val (.ref sg), .val (.int pp)] [(.ref a2), (.ref sg)])) rfl (by rw [hml]; rfl) (argsL := [(.ref sg), (.ref a2)]) (rest := []) (lenOf own_pd5 rfl) rfl (by show 2 * 0 + _ ≤ _; exact Nat.le_of_eq rfl) (hb hby own_d7_7) (fun _ _ => ⟨rfl, e2, (by decide : 2 + 0 ≤ _), (by decide : 24 + 0 ≤ _)⟩)
  dsimp only [Pt.U, Pt.locs, Pt.cells, Pt.slots] at X4 l4 y4 z4 st4 hQ4
  subst l4 y4 z4
  obtain ⟨rfl, N4q, e4⟩ := hQ4
  have N4 := Fr.app N1 N4q
  obtain ⟨cq5, kq5, q5a, q5b, q5c⟩ := isOf hZ e4 Es
  obtain ⟨_, _, ⟨T5, L5, k5, n5⟩, -, X5, ⟨Lc5, hQ5, l5, y5, z5⟩, st5⟩ := X4.virtualBack hx (y := (⟨"java/lang/String", "isEmpty", "()Z"⟩ : MethodName)) (z := (⟨"java/lang/String", "isEmpty", "()Z"⟩ : MethodName)) hown (mvT hZ (hw _ (List.mem_of_getElem? (i := 50) rfl))) (mvT hZ (hw _ (List.mem_of_getElem? (i := 51) rfl))) (notFace_of_selects (args := #[]) (mvT hZ (hw _ (List.mem_of_getElem? (i := 53) rfl)))) (mvT hZ (hw _ (List.mem_of_getElem? (i := 53) rfl))) (mvT hZ (hw _ (List.mem_of_getElem? (i := 52) rfl))) (by decide) (backOf (W := 0) (own_emp1 l Z a0 hw [] sg bv kb y1 h2 n0 Z3 Fv Vb) hZ (hw _ (List.mem_of_getElem? (i := 54) rfl)) (hw _ (List.mem_of_getElem? (i := 3) rfl)) (by decide) (by decide)) q5a q5c (g := (mkF m 12 #[.val (.ref a), .val (.ref sg), .val (.int pp)] [(.ref sg)])) rfl (by rw [hml]; rfl) (Steps.refl _) (argsL := []) (rest := []) (lenOf own_pd6 rfl) rfl (by show 2 * 0 + _ ≤ _; exact Nat.le_of_eq rfl) (hb hby own_d7_12) (fun _ _ => ⟨rfl, e4, (by decide : 2 + 0 ≤ _), (by decide : 24 + 0 ≤ _)⟩)
  dsimp only [Pt.U, Pt.locs, Pt.cells, Pt.slots] at X5 l5 y5 z5 st5 hQ5
  subst l5 y5 z5
  obtain ⟨rfl, N5q, e5⟩ := hQ5
  have N5 := Fr.app N4 N5q
  obtain ⟨T6, h6, X6, e6, W6, st6⟩ := putF X5 hx hZ hown (host := "") (Or.inl (hw _ (List.mem_of_getElem? (i := 55) rfl))) Via.refl e5 Ft E (Or.inr ⟨(hw _ (List.mem_of_getElem? (i := 56) rfl)), rfl, hnm⟩) (hw _ (List.mem_of_getElem? (i := 32) rfl)) (ty := (.object "java/lang/String")) (by decide) rfl rfl (g := (mkF m 39 #[.val (.ref a), .val (.ref sg), .val (.int pp)] [(.ref sg), (.ref a)])) rfl rfl (hb hby own_d7_39)
  have E := E.wr W6
  have Fp := Fp.other W6 (Or.inr (slot_ne (Or.inr (hw _ (List.mem_of_getElem? (i := 58) rfl))) (Or.inr (hw _ (List.mem_of_getElem? (i := 56) rfl))) (by decide) (t := .int) (t' := (.object "java/lang/String")) (by decide) (by decide)))
  have hk := Nat.le_trans hk (Keep.of_wr W6).1
  have Z7 : n0 ≤ h6.size := Nat.le_trans Z3 (Keep.of_wr W6).1
  have KP := KP.wr W6 (Or.inl (List.mem_of_getElem? (i := 0) rfl))
  have Ft := Ft.same W6
  have N6 := Fr.snoc X6 N5 g
  obtain ⟨T8, h8, X8, e8, W8, st8⟩ := putF X6 hx hZ hown (host := "") (Or.inl (hw _ (List.mem_of_getElem? (i := 57) rfl))) Via.refl e6 Fp E (Or.inr ⟨(hw _ (List.mem_of_getElem? (i := 58) rfl)), rfl, hnm⟩) (hw _ (List.mem_of_getElem? (i := 32) rfl)) (ty := .int) (by decide) rfl rfl (g := (mkF m 44 #[.val (.ref a), .val (.ref sg), .val (.int pp)] [(.int pp), (.ref a)])) rfl rfl (hb hby own_d7_44)
  have E := E.wr W8
  have Ft := Ft.other W8 (Or.inr (slot_ne (Or.inr (hw _ (List.mem_of_getElem? (i := 56) rfl))) (Or.inr (hw _ (List.mem_of_getElem? (i := 58) rfl))) (by decide) (t := (.object "java/lang/String")) (t' := .int) (by decide) (by decide)))
  have hk := Nat.le_trans hk (Keep.of_wr W8).1
  have Z9 : n0 ≤ h8.size := Nat.le_trans Z7 (Keep.of_wr W8).1
  have KP := KP.wr W8 (Or.inl (List.mem_of_getElem? (i := 0) rfl))
  have Fp := Fp.same W8
  have N8 := Fr.snoc X8 N6 g
  obtain ⟨fs, hr, hrun, hended, hRW⟩ := X8.leaveW hS (by rw [e8]; exact hk) (v := none) (fun _ => rfl)
  refine ⟨_, _, pre0 _ ?_, hrun, hended, _, _, rfl, ?_, hRW.1, hRW.2.1, hRW.2.2.1, hRW.2.2.2.mono (by decide) (by decide)⟩
  · show Steps p.tables e below (s₁.setTop (mkF m 0 #[.val (.ref a), .val (.ref sg), .val (.int pp)] [])) _
    refine XS.aloadN X0.here hx rfl (hb hby own_d7_0) rfl rfl ?_
    show Steps p.tables e below (s₁.setTop (mkF m 1 #[.val (.ref a), .val (.ref sg), .val (.int pp)] [(.ref a)])) _
    refine st1.trans ?_
    show Steps p.tables e below (T1.setTop (mkF m 4 #[.val (.ref a), .val (.ref sg), .val (.int pp)] [])) _
    refine XS.aloadN X1.here hx rfl (hb hby own_d7_4) rfl rfl ?_
    show Steps p.tables e below (T1.setTop (mkF m 5 #[.val (.ref a), .val (.ref sg), .val (.int pp)] [(.ref sg)])) _
    refine st2 _ ?_
    show Steps p.tables e below (T2.setTop (mkF m 7 #[.val (.ref a), .val (.ref sg), .val (.int pp)] [(.ref a2), (.ref sg)])) _
    refine st4 _ ?_
    show Steps p.tables e below (T4.setTop (mkF m 10 #[.val (.ref a), .val (.ref sg), .val (.int pp)] [(.ref sg)])) _
    refine XS.pop X4.here hx rfl (hb hby own_d7_10) rfl rfl ?_
    show Steps p.tables e below (T4.setTop (mkF m 11 #[.val (.ref a), .val (.ref sg), .val (.int pp)] [])) _
    refine XS.aloadN X4.here hx rfl (hb hby own_d7_11) rfl rfl ?_
    show Steps p.tables e below (T4.setTop (mkF m 12 #[.val (.ref a), .val (.ref sg), .val (.int pp)] [(.ref sg)])) _
    refine st5.trans ?_
    show Steps p.tables e below (T5.setTop (mkF m 15 #[.val (.ref a), .val (.ref sg), .val (.int pp)] [(.int (0 : Int32))])) _
    refine XS.ifNo X5.here hx rfl (hb hby own_d7_15) rfl ((if0 _ _).trans (teq (by decide : (0 : Int32) = (0 : Int32))).2) ?_
    show Steps p.tables e below (T5.setTop (mkF m 18 #[.val (.ref a), .val (.ref sg), .val (.int pp)] [])) _
    refine XS.iloadN X5.here hx rfl (hb hby own_d7_18) rfl ?_
    show Steps p.tables e below (T5.setTop (mkF m 19 #[.val (.ref a), .val (.ref sg), .val (.int pp)] [(.int pp)])) _
    refine XS.ifYes X5.here hx rfl (pc0 := 19) (pc' := 37) rfl (hb hby own_d7_19) rfl ((if0 _ _).trans (flt hp).2.1) (by decide) (by decide) ?_
    show Steps p.tables e below (T5.setTop (mkF m 37 #[.val (.ref a), .val (.ref sg), .val (.int pp)] [])) _
    refine XS.aloadN X5.here hx rfl (hb hby own_d7_37) rfl rfl ?_
    show Steps p.tables e below (T5.setTop (mkF m 38 #[.val (.ref a), .val (.ref sg), .val (.int pp)] [(.ref a)])) _
    refine XS.aloadN X5.here hx rfl (hb hby own_d7_38) rfl rfl ?_
    show Steps p.tables e below (T5.setTop (mkF m 39 #[.val (.ref a), .val (.ref sg), .val (.int pp)] [(.ref sg), (.ref a)])) _
    refine st6 _ ?_
    show Steps p.tables e below (T6.setTop (mkF m 42 #[.val (.ref a), .val (.ref sg), .val (.int pp)] [])) _
    refine XS.aloadN X6.here hx rfl (hb hby own_d7_42) rfl rfl ?_
    show Steps p.tables e below (T6.setTop (mkF m 43 #[.val (.ref a), .val (.ref sg), .val (.int pp)] [(.ref a)])) _
    refine XS.iloadN X6.here hx rfl (hb hby own_d7_43) rfl ?_
    show Steps p.tables e below (T6.setTop (mkF m 44 #[.val (.ref a), .val (.ref sg), .val (.int pp)] [(.int pp), (.ref a)])) _
    refine st8 _ ?_
    show Steps p.tables e below (T8.setTop (mkF m 47 #[.val (.ref a), .val (.ref sg), .val (.int pp)] [])) _
    exact X8.returnOut hx Bd.returns (hb hby own_d7_47) hr
  · show own_Q_own_init1 Z a sg pp bv kb y1 h0 n0 _ T8.heap _
    rw [e8]
    exact ⟨rfl, N8, KP, E, Ft, Fp⟩
def own_Q_own_emp2 (Z : State) (sg : Addr) (bv : Addr) (kb : ClassId) (y1 : Int32) (y2 : Int32) (h0 : Heap) (n0 : Nat) (v : Option Value) (h : Heap) (L : List Loc) : Prop := v = some (.int 0) ∧ Fr n0 L ∧ h = h0
set_option maxRecDepth 65536 in
set_option maxHeartbeats 40000000 in
theorem own_emp2 (l : Launch) (Z : State) (a0 : Array Value) (hw : ∀ d ∈ tables_1, d.before a0 Z = true) (ws : List Jvm.Cond) (sg : Addr) (bv : Addr) (kb : ClassId) (y1 : Int32) (y2 : Int32) (h0 : Heap) (n0 : Nat) (Z0 : n0 ≤ h0.size) (Fv : Fld Z h0 sg "java/lang/String" "value" "[B" (.ref bv)) (Vb : Arv Z h0 bv kb .byte (2 : Int32) [(.int y1), (.int y2)] (.int (0 : Int32))) :
    MetFree l (⟨"java/lang/String", "isEmpty", "()Z"⟩ : MethodName) (head1 (Jvm.Cond.code (⟨"java/lang/String", "isEmpty", "()Z"⟩ : MethodName) jdk_42_method_55_code 1 (some .boolean) :: ws) ({ frames := 0, cells := 0, slots := 0, locals := 0 } : Room)) (fun as_ U => as_ = #[(.ref sg)] ∧ Z.Warmed39 U.vm ∧ U.heap = h0) (fun _ _ _ _ _ => True) (fun _ U o U' => ∃ v L, o = .returned v ∧ own_Q_own_emp2 Z sg bv kb y1 y2 h0 n0 v U'.heap L ∧ FrameEnd U o U' L ({ frames := 0, cells := 0, slots := 0, locals := 0 } : Room).cells ({ frames := 0, cells := 0, slots := 0, locals := 0 } : Room).slots) := by
  refine MetFree.of_bodySF (plainFor_of_name own_pn1) hisR ?_
  intro p e s m args below meth c s₁ Bd hml0 hP hK
  obtain ⟨rfl, hZ, hh⟩ := hP
  have hx := Bd.exec
  have hby := Bd.bytes
  have hml : c.maxLocals = 1 := hml0
  have hown : s.vm.findClass "java/lang/String" = some m.cls := findClass_of_methodNamed Bd.named
  have hnm := (name_of_methodNamed Bd.named Bd.method).1
  have X0 : Stand p l e ({ frames := 0, cells := 0, slots := 0, locals := 0 } : Room) s m #[(.ref sg)] below meth c s₁ [] 0 0 := Stand.of_body Bd
  have e0 : s₁.heap = h0 := by rw [← hh, Bd.state]; rfl
  have N0 := Fr.nil n0
  have pre0 : ∀ t, Steps p.tables e below (s₁.setTop (mkF m 0 #[.val (.ref sg)] [])) t → Steps p.tables e below (s₁.setTop (entryFrame m #[(.ref sg)] 1)) t := fun t k => castTop (own_ef10 m sg) k
  obtain ⟨T1, X1, e1, st1⟩ := getF X0 hx hZ hown (host := "") (Or.inl (hw _ (List.mem_of_getElem? (i := 29) rfl))) Via.refl e0 Fv (g := (mkF m 1 #[.val (.ref sg)] [(.ref sg)])) rfl rfl (hb hby own_d10_1)
  obtain ⟨cl2, Ar2, q2, S2, M2, H2, G2⟩ := id Vb
  obtain ⟨fs, hr, hrun, hended, hW, hsame⟩ := X1.leave (v := some (.int (0 : Int32))) (fun h => by rw [Bd.returns] at h; cases h)
  refine ⟨_, _, pre0 _ ?_, hrun, hended, _, _, rfl, ?_, ⟨_, rfl⟩, hW, hsame.mono (by decide) (by decide)⟩
  · show Steps p.tables e below (s₁.setTop (mkF m 0 #[.val (.ref sg)] [])) _
    refine XS.aloadN X0.here hx rfl (hb hby own_d10_0) rfl rfl ?_
    show Steps p.tables e below (s₁.setTop (mkF m 1 #[.val (.ref sg)] [(.ref sg)])) _
    refine st1 _ ?_
    show Steps p.tables e below (T1.setTop (mkF m 4 #[.val (.ref sg)] [(.ref bv)])) _
    refine X1.arraylength hx (by rw [e1]; exact Ar2.1) (State.isArrayOf_alike hZ.alike Ar2.2.1) (g := (mkF m 4 #[.val (.ref sg)] [(.ref bv)])) rfl rfl (hb hby own_d10_4) _ ?_
    rw [len_of S2 M2]
    show Steps p.tables e below (T1.setTop (mkF m 5 #[.val (.ref sg)] [(.int (2 : Int32))])) _
    refine XS.ifYes X1.here hx rfl (pc0 := 5) (pc' := 12) rfl (hb hby own_d10_5) rfl ((if0 _ _).trans (feq (by decide : ¬ ((2 : Int32) = (0 : Int32)))).2) (by decide) (by decide) ?_
    show Steps p.tables e below (T1.setTop (mkF m 12 #[.val (.ref sg)] [])) _
    refine XS.iconst X1.here hx rfl (hb hby own_d10_12) ?_
    show Steps p.tables e below (T1.setTop (mkF m 13 #[.val (.ref sg)] [(.int (0 : Int32))])) _
    exact retN X1 hx (t := .boolean) Bd.returns (by simp) (hb hby own_d10_13) hr
  · show own_Q_own_emp2 Z sg bv kb y1 y2 h0 n0 _ T1.heap _
    rw [e1]
    exact ⟨rfl, N0, rfl⟩
def own_Q_own_init2 (Z : State) (a : Addr) (sg : Addr) (pp : Int32) (bv : Addr) (kb : ClassId) (y1 : Int32) (y2 : Int32) (h0 : Heap) (n0 : Nat) (v : Option Value) (h : Heap) (L : List Loc) : Prop := v = none ∧ Fr n0 L ∧ Keep h0 h [a] ∧ Exa Z h a "com/example/vigilant_consumer/vigilantconsumer/TopicPartition" ∧ Fld Z h a "com/example/vigilant_consumer/vigilantconsumer/TopicPartition" "topic" "Ljava/lang/String;" (.ref sg) ∧ Fld Z h a "com/example/vigilant_consumer/vigilantconsumer/TopicPartition" "partition" "I" (.int pp)
set_option maxRecDepth 65536 in
set_option maxHeartbeats 40000000 in
theorem own_init2 (l : Launch) (Z : State) (a0 : Array Value) (hw : ∀ d ∈ tables_1, d.before a0 Z = true) (ws : List Jvm.Cond) (a : Addr) (sg : Addr) (pp : Int32) (bv : Addr) (kb : ClassId) (y1 : Int32) (y2 : Int32) (h0 : Heap) (n0 : Nat) (Z0 : n0 ≤ h0.size) (E : Exa Z h0 a "com/example/vigilant_consumer/vigilantconsumer/TopicPartition") (Ft : Fld Z h0 a "com/example/vigilant_consumer/vigilantconsumer/TopicPartition" "topic" "Ljava/lang/String;" .null) (Fp : Fld Z h0 a "com/example/vigilant_consumer/vigilantconsumer/TopicPartition" "partition" "I" (.int (0 : Int32))) (g : n0 ≤ a) (Es : Exa Z h0 sg "java/lang/String") (Fv : Fld Z h0 sg "java/lang/String" "value" "[B" (.ref bv)) (Vb : Arv Z h0 bv kb .byte (2 : Int32) [(.int y1), (.int y2)] (.int (0 : Int32))) (hp : ¬ (pp < (0 : Int32))) :
    MetFree l (⟨"com/example/vigilant_consumer/vigilantconsumer/TopicPartition", "<init>", "(Ljava/lang/String;I)V"⟩ : MethodName) (head1 (Jvm.Cond.code (⟨"com/example/vigilant_consumer/vigilantconsumer/TopicPartition", "<init>", "(Ljava/lang/String;I)V"⟩ : MethodName) prog_59_method_1_code 3 none :: ws) ({ frames := 2, cells := 2, slots := 24, locals := 24 } : Room)) (fun as_ U => as_ = #[(.ref a), (.ref sg), (.int pp)] ∧ Z.Warmed39 U.vm ∧ U.heap = h0) (fun _ _ _ _ _ => True) (fun _ U o U' => ∃ v L, o = .returned v ∧ own_Q_own_init2 Z a sg pp bv kb y1 y2 h0 n0 v U'.heap L ∧ ReturnedEndW U o U' L ({ frames := 2, cells := 2, slots := 24, locals := 24 } : Room).cells ({ frames := 2, cells := 2, slots := 24, locals := 24 } : Room).slots) := by
  refine MetFree.of_bodySF (plainFor_of_name own_pn4) hisR ?_
  intro p e s m args below meth c s₁ Bd hml0 hP hK
  obtain ⟨rfl, hZ, hh⟩ := hP
  have hx := Bd.exec
  have hby := Bd.bytes
  have hml : c.maxLocals = 3 := hml0
  have hown : s.vm.findClass "com/example/vigilant_consumer/vigilantconsumer/TopicPartition" = some m.cls := findClass_of_methodNamed Bd.named
  have hnm := (name_of_methodNamed Bd.named Bd.method).1
  have X0 : Stand p l e ({ frames := 2, cells := 2, slots := 24, locals := 24 } : Room) (s.setVm s.vm) m #[(.ref a), (.ref sg), (.int pp)] below meth c s₁ [] 0 0 := Stand.of_body Bd
  have e0 : s₁.heap = h0 := by rw [← hh, Bd.state]; rfl
  have N0 := Fr.nil n0
  have pre0 : ∀ t, Steps p.tables e below (s₁.setTop (mkF m 0 #[.val (.ref a), .val (.ref sg), .val (.int pp)] [])) t → Steps p.tables e below (s₁.setTop (entryFrame m #[(.ref a), (.ref sg), (.int pp)] 3)) t := fun t k => castTop (own_ef7 m a sg pp) k
  have hS : s.Since s.vm 0 := (State.WarmedH.refl s).since 0
  have hk : 0 ≤ h0.size := Nat.zero_le _
  have hZ : Z.Warmed39 (s.setVm s.vm).vm := hZ
  have hown : (s.setVm s.vm).vm.findClass "com/example/vigilant_consumer/vigilantconsumer/TopicPartition" = some m.cls := hown
  have KP := Keep.refl h0 ([a] : List Addr)
  obtain ⟨_, _, ⟨T1, L1, k1, n1⟩, -, X1, ⟨Lc1, hQ1, l1, y1, z1⟩, st1⟩ := X0.specialBack hx (y := (⟨"java/lang/Record", "<init>", "()V"⟩ : MethodName)) rfl hown (mvT hZ (hw _ (List.mem_of_getElem? (i := 37) rfl))) (mvT hZ (hw _ (List.mem_of_getElem? (i := 38) rfl))) (mvT hZ (hw _ (List.mem_of_getElem? (i := 41) rfl))) (by decide) (backOf (W := 0) (own_rec l Z a0 hw [] a  h0 n0 Z0 ) hZ (hw _ (List.mem_of_getElem? (i := 41) rfl)) (hw _ (List.mem_of_getElem? (i := 40) rfl)) (by decide) (by decide)) (g := (mkF m 1 #[.val (.ref a), .val (.ref sg), .val (.int pp)] [(.ref a)])) rfl (by rw [hml]; rfl) (Steps.refl _) (a := a) (argsL := []) (rest := []) (lenOf own_pd4 rfl) rfl (by show 2 * 0 + _ ≤ _; exact Nat.le_of_eq rfl) (hb hby own_d7_1) (fun _ _ => ⟨rfl, e0, (by decide : 0 + 0 ≤ _), (by decide : 0 + 0 ≤ _)⟩)
  dsimp only [Pt.U, Pt.locs, Pt.cells, Pt.slots] at X1 l1 y1 z1 st1 hQ1
  subst l1 y1 z1
  obtain ⟨rfl, N1q, e1⟩ := hQ1
  have N1 := Fr.app N0 N1q
  obtain ⟨a2, T2, h2, k2, X2, e2, E2, hS, hk, hZ, hown, st2⟩ := ldcS X1 hx hZ hown (hw _ (List.mem_of_getElem? (i := 43) rfl)) (own_wS hw) e1 hS hk (g := (mkF m 5 #[.val (.ref a), .val (.ref sg), .val (.int pp)] [(.ref sg)])) rfl (hb hby own_d7_5) (n := 20) (by decide) (by decide) (by decide) (by decide)
  have E := E.ext E2
  have Ft := Ft.ext E2
  have Fp := Fp.ext E2
  have Es := Es.ext E2
  have Fv := Fv.ext E2
  have Vb := Vb.ext E2
  have Z3 : n0 ≤ h2.size := Nat.le_trans Z0 E2.1
  have KP := KP.ext E2
  obtain ⟨_, _, ⟨T4, L4, k4, n4⟩, -, X4, ⟨Lc4, hQ4, l4, y4, z4⟩, st4⟩ := Jvm.LawKit.callS X2 hx (y := (⟨"java/util/Objects", "requireNonNull", "(Ljava/lang/Object;Ljava/lang/String;)Ljava/lang/Object;"⟩ : MethodName)) hown (mvT hZ (hw _ (List.mem_of_getElem? (i := 46) rfl))) (mvT hZ (hw _ (List.mem_of_getElem? (i := 47) rfl))) (mvT hZ (hw _ (List.mem_of_getElem? (i := 48) rfl))) (mvT hZ (hw _ (List.mem_of_getElem? (i := 49) rfl))) (by decide) (backOf (W := 0) (own_rnn l Z a0 hw [] sg a2  h2 n0 Z3 ) hZ (hw _ (List.mem_of_getElem? (i := 49) rfl)) (hw _ (List.mem_of_getElem? (i := 48) rfl)) (by decide) (by decide)) (g := (mkF m 7 #[.val (.ref a), .val (.ref sg), .val (.int pp)] [(.ref a2), (.ref sg)])) rfl (by rw [hml]; rfl) (argsL := [(.ref sg), (.ref a2)]) (rest := []) (lenOf own_pd5 rfl) rfl (by show 2 * 0 + _ ≤ _; exact Nat.le_of_eq rfl) (hb hby own_d7_7) (fun _ _ => ⟨rfl, e2, (by decide : 2 + 0 ≤ _), (by decide : 24 + 0 ≤ _)⟩)
  dsimp only [Pt.U, Pt.locs, Pt.cells, Pt.slots] at X4 l4 y4 z4 st4 hQ4
  subst l4 y4 z4
  obtain ⟨rfl, N4q, e4⟩ := hQ4
  have N4 := Fr.app N1 N4q
  obtain ⟨cq5, kq5, q5a, q5b, q5c⟩ := isOf hZ e4 Es
  obtain ⟨_, _, ⟨T5, L5, k5, n5⟩, -, X5, ⟨Lc5, hQ5, l5, y5, z5⟩, st5⟩ := X4.virtualBack hx (y := (⟨"java/lang/String", "isEmpty", "()Z"⟩ : MethodName)) (z := (⟨"java/lang/String", "isEmpty", "()Z"⟩ : MethodName)) hown (mvT hZ (hw _ (List.mem_of_getElem? (i := 50) rfl))) (mvT hZ (hw _ (List.mem_of_getElem? (i := 51) rfl))) (notFace_of_selects (args := #[]) (mvT hZ (hw _ (List.mem_of_getElem? (i := 53) rfl)))) (mvT hZ (hw _ (List.mem_of_getElem? (i := 53) rfl))) (mvT hZ (hw _ (List.mem_of_getElem? (i := 52) rfl))) (by decide) (backOf (W := 0) (own_emp2 l Z a0 hw [] sg bv kb y1 y2 h2 n0 Z3 Fv Vb) hZ (hw _ (List.mem_of_getElem? (i := 54) rfl)) (hw _ (List.mem_of_getElem? (i := 3) rfl)) (by decide) (by decide)) q5a q5c (g := (mkF m 12 #[.val (.ref a), .val (.ref sg), .val (.int pp)] [(.ref sg)])) rfl (by rw [hml]; rfl) (Steps.refl _) (argsL := []) (rest := []) (lenOf own_pd6 rfl) rfl (by show 2 * 0 + _ ≤ _; exact Nat.le_of_eq rfl) (hb hby own_d7_12) (fun _ _ => ⟨rfl, e4, (by decide : 2 + 0 ≤ _), (by decide : 24 + 0 ≤ _)⟩)
  dsimp only [Pt.U, Pt.locs, Pt.cells, Pt.slots] at X5 l5 y5 z5 st5 hQ5
  subst l5 y5 z5
  obtain ⟨rfl, N5q, e5⟩ := hQ5
  have N5 := Fr.app N4 N5q
  obtain ⟨T6, h6, X6, e6, W6, st6⟩ := putF X5 hx hZ hown (host := "") (Or.inl (hw _ (List.mem_of_getElem? (i := 55) rfl))) Via.refl e5 Ft E (Or.inr ⟨(hw _ (List.mem_of_getElem? (i := 56) rfl)), rfl, hnm⟩) (hw _ (List.mem_of_getElem? (i := 32) rfl)) (ty := (.object "java/lang/String")) (by decide) rfl rfl (g := (mkF m 39 #[.val (.ref a), .val (.ref sg), .val (.int pp)] [(.ref sg), (.ref a)])) rfl rfl (hb hby own_d7_39)
  have E := E.wr W6
  have Fp := Fp.other W6 (Or.inr (slot_ne (Or.inr (hw _ (List.mem_of_getElem? (i := 58) rfl))) (Or.inr (hw _ (List.mem_of_getElem? (i := 56) rfl))) (by decide) (t := .int) (t' := (.object "java/lang/String")) (by decide) (by decide)))
  have hk := Nat.le_trans hk (Keep.of_wr W6).1
  have Z7 : n0 ≤ h6.size := Nat.le_trans Z3 (Keep.of_wr W6).1
  have KP := KP.wr W6 (Or.inl (List.mem_of_getElem? (i := 0) rfl))
  have Ft := Ft.same W6
  have N6 := Fr.snoc X6 N5 g
  obtain ⟨T8, h8, X8, e8, W8, st8⟩ := putF X6 hx hZ hown (host := "") (Or.inl (hw _ (List.mem_of_getElem? (i := 57) rfl))) Via.refl e6 Fp E (Or.inr ⟨(hw _ (List.mem_of_getElem? (i := 58) rfl)), rfl, hnm⟩) (hw _ (List.mem_of_getElem? (i := 32) rfl)) (ty := .int) (by decide) rfl rfl (g := (mkF m 44 #[.val (.ref a), .val (.ref sg), .val (.int pp)] [(.int pp), (.ref a)])) rfl rfl (hb hby own_d7_44)
  have E := E.wr W8
  have Ft := Ft.other W8 (Or.inr (slot_ne (Or.inr (hw _ (List.mem_of_getElem? (i := 56) rfl))) (Or.inr (hw _ (List.mem_of_getElem? (i := 58) rfl))) (by decide) (t := (.object "java/lang/String")) (t' := .int) (by decide) (by decide)))
  have hk := Nat.le_trans hk (Keep.of_wr W8).1
  have Z9 : n0 ≤ h8.size := Nat.le_trans Z7 (Keep.of_wr W8).1
  have KP := KP.wr W8 (Or.inl (List.mem_of_getElem? (i := 0) rfl))
  have Fp := Fp.same W8
  have N8 := Fr.snoc X8 N6 g
  obtain ⟨fs, hr, hrun, hended, hRW⟩ := X8.leaveW hS (by rw [e8]; exact hk) (v := none) (fun _ => rfl)
  refine ⟨_, _, pre0 _ ?_, hrun, hended, _, _, rfl, ?_, hRW.1, hRW.2.1, hRW.2.2.1, hRW.2.2.2.mono (by decide) (by decide)⟩
  · show Steps p.tables e below (s₁.setTop (mkF m 0 #[.val (.ref a), .val (.ref sg), .val (.int pp)] [])) _
    refine XS.aloadN X0.here hx rfl (hb hby own_d7_0) rfl rfl ?_
    show Steps p.tables e below (s₁.setTop (mkF m 1 #[.val (.ref a), .val (.ref sg), .val (.int pp)] [(.ref a)])) _
    refine st1.trans ?_
    show Steps p.tables e below (T1.setTop (mkF m 4 #[.val (.ref a), .val (.ref sg), .val (.int pp)] [])) _
    refine XS.aloadN X1.here hx rfl (hb hby own_d7_4) rfl rfl ?_
    show Steps p.tables e below (T1.setTop (mkF m 5 #[.val (.ref a), .val (.ref sg), .val (.int pp)] [(.ref sg)])) _
    refine st2 _ ?_
    show Steps p.tables e below (T2.setTop (mkF m 7 #[.val (.ref a), .val (.ref sg), .val (.int pp)] [(.ref a2), (.ref sg)])) _
    refine st4 _ ?_
    show Steps p.tables e below (T4.setTop (mkF m 10 #[.val (.ref a), .val (.ref sg), .val (.int pp)] [(.ref sg)])) _
    refine XS.pop X4.here hx rfl (hb hby own_d7_10) rfl rfl ?_
    show Steps p.tables e below (T4.setTop (mkF m 11 #[.val (.ref a), .val (.ref sg), .val (.int pp)] [])) _
    refine XS.aloadN X4.here hx rfl (hb hby own_d7_11) rfl rfl ?_
    show Steps p.tables e below (T4.setTop (mkF m 12 #[.val (.ref a), .val (.ref sg), .val (.int pp)] [(.ref sg)])) _
    refine st5.trans ?_
    show Steps p.tables e below (T5.setTop (mkF m 15 #[.val (.ref a), .val (.ref sg), .val (.int pp)] [(.int (0 : Int32))])) _
    refine XS.ifNo X5.here hx rfl (hb hby own_d7_15) rfl ((if0 _ _).trans (teq (by decide : (0 : Int32) = (0 : Int32))).2) ?_
    show Steps p.tables e below (T5.setTop (mkF m 18 #[.val (.ref a), .val (.ref sg), .val (.int pp)] [])) _
    refine XS.iloadN X5.here hx rfl (hb hby own_d7_18) rfl ?_
    show Steps p.tables e below (T5.setTop (mkF m 19 #[.val (.ref a), .val (.ref sg), .val (.int pp)] [(.int pp)])) _
    refine XS.ifYes X5.here hx rfl (pc0 := 19) (pc' := 37) rfl (hb hby own_d7_19) rfl ((if0 _ _).trans (flt hp).2.1) (by decide) (by decide) ?_
    show Steps p.tables e below (T5.setTop (mkF m 37 #[.val (.ref a), .val (.ref sg), .val (.int pp)] [])) _
    refine XS.aloadN X5.here hx rfl (hb hby own_d7_37) rfl rfl ?_
    show Steps p.tables e below (T5.setTop (mkF m 38 #[.val (.ref a), .val (.ref sg), .val (.int pp)] [(.ref a)])) _
    refine XS.aloadN X5.here hx rfl (hb hby own_d7_38) rfl rfl ?_
    show Steps p.tables e below (T5.setTop (mkF m 39 #[.val (.ref a), .val (.ref sg), .val (.int pp)] [(.ref sg), (.ref a)])) _
    refine st6 _ ?_
    show Steps p.tables e below (T6.setTop (mkF m 42 #[.val (.ref a), .val (.ref sg), .val (.int pp)] [])) _
    refine XS.aloadN X6.here hx rfl (hb hby own_d7_42) rfl rfl ?_
    show Steps p.tables e below (T6.setTop (mkF m 43 #[.val (.ref a), .val (.ref sg), .val (.int pp)] [(.ref a)])) _
    refine XS.iloadN X6.here hx rfl (hb hby own_d7_43) rfl ?_
    show Steps p.tables e below (T6.setTop (mkF m 44 #[.val (.ref a), .val (.ref sg), .val (.int pp)] [(.int pp), (.ref a)])) _
    refine st8 _ ?_
    show Steps p.tables e below (T8.setTop (mkF m 47 #[.val (.ref a), .val (.ref sg), .val (.int pp)] [])) _
    exact X8.returnOut hx Bd.returns (hb hby own_d7_47) hr
  · show own_Q_own_init2 Z a sg pp bv kb y1 y2 h0 n0 _ T8.heap _
    rw [e8]
    exact ⟨rfl, N8, KP, E, Ft, Fp⟩
theorem own_d13_0 : decode jdk_43_method_13_code 0 = .ok (.aload_n 0, 1) := by decide +kernel
theorem own_d13_1 : decode jdk_43_method_13_code 1 = .ok (.arraylength, 1) := by decide +kernel
theorem own_d13_2 : decode jdk_43_method_13_code 2 = .ok (.aload_n 1, 1) := by decide +kernel
theorem own_d13_3 : decode jdk_43_method_13_code 3 = .ok (.arraylength, 1) := by decide +kernel
theorem own_d13_4 : decode jdk_43_method_13_code 4 = .ok (.if_icmp .ne 30, 3) := by decide +kernel
theorem own_d13_7 : decode jdk_43_method_13_code 7 = .ok (.iconst 0, 1) := by decide +kernel
theorem own_d13_8 : decode jdk_43_method_13_code 8 = .ok (.istore_n 2, 1) := by decide +kernel
theorem own_d13_9 : decode jdk_43_method_13_code 9 = .ok (.iload_n 2, 1) := by decide +kernel
theorem own_d13_10 : decode jdk_43_method_13_code 10 = .ok (.aload_n 0, 1) := by decide +kernel
theorem own_d13_11 : decode jdk_43_method_13_code 11 = .ok (.arraylength, 1) := by decide +kernel
theorem own_d13_12 : decode jdk_43_method_13_code 12 = .ok (.if_icmp .ge 20, 3) := by decide +kernel
theorem own_d13_15 : decode jdk_43_method_13_code 15 = .ok (.aload_n 0, 1) := by decide +kernel
theorem own_d13_16 : decode jdk_43_method_13_code 16 = .ok (.iload_n 2, 1) := by decide +kernel
theorem own_d13_17 : decode jdk_43_method_13_code 17 = .ok (.baload, 1) := by decide +kernel
theorem own_d13_18 : decode jdk_43_method_13_code 18 = .ok (.aload_n 1, 1) := by decide +kernel
theorem own_d13_19 : decode jdk_43_method_13_code 19 = .ok (.iload_n 2, 1) := by decide +kernel
theorem own_d13_20 : decode jdk_43_method_13_code 20 = .ok (.baload, 1) := by decide +kernel
theorem own_d13_21 : decode jdk_43_method_13_code 21 = .ok (.if_icmp .eq 5, 3) := by decide +kernel
theorem own_d13_24 : decode jdk_43_method_13_code 24 = .ok (.iconst 0, 1) := by decide +kernel
theorem own_d13_25 : decode jdk_43_method_13_code 25 = .ok (.ireturn, 1) := by decide +kernel
theorem own_d13_26 : decode jdk_43_method_13_code 26 = .ok (.iinc 2 1, 3) := by decide +kernel
theorem own_d13_29 : decode jdk_43_method_13_code 29 = .ok (.goto (-20), 3) := by decide +kernel
theorem own_d13_32 : decode jdk_43_method_13_code 32 = .ok (.iconst 1, 1) := by decide +kernel
theorem own_d13_33 : decode jdk_43_method_13_code 33 = .ok (.ireturn, 1) := by decide +kernel
theorem own_pn5 : plainName "java/lang/StringLatin1" = true := by first | (simp [plainName, overriddenIn]; done) | decide +kernel
theorem own_ef13 (m : MethodId) (x0 : Addr) (x1 : Addr) : entryFrame m #[(.ref x0), (.ref x1)] 3 = mkF m 0 #[.val (.ref x0), .val (.ref x1), .unset] [] := by first | (simp [entryFrame, mkF, argsToLocals, Value.category]; done) | rfl
def own_Q_own_leq11 (Z : State) (b1 : Addr) (b2 : Addr) (k1 : ClassId) (k2 : ClassId) (x1 : Int32) (y1 : Int32) (h0 : Heap) (n0 : Nat) (v : Option Value) (h : Heap) (L : List Loc) : Prop := v = some (.int (if x1 = y1 then (1 : Int32) else (0 : Int32))) ∧ Fr n0 L ∧ h = h0
set_option maxRecDepth 65536 in
set_option maxHeartbeats 40000000 in
theorem own_leq11 (l : Launch) (Z : State) (a0 : Array Value) (hw : ∀ d ∈ tables_1, d.before a0 Z = true) (ws : List Jvm.Cond) (b1 : Addr) (b2 : Addr) (k1 : ClassId) (k2 : ClassId) (x1 : Int32) (y1 : Int32) (h0 : Heap) (n0 : Nat) (Z0 : n0 ≤ h0.size) (V1 : Arv Z h0 b1 k1 .byte (1 : Int32) [(.int x1)] (.int (0 : Int32))) (V2 : Arv Z h0 b2 k2 .byte (1 : Int32) [(.int y1)] (.int (0 : Int32))) :
    MetFree l (⟨"java/lang/StringLatin1", "equals", "([B[B)Z"⟩ : MethodName) (head1 (Jvm.Cond.code (⟨"java/lang/StringLatin1", "equals", "([B[B)Z"⟩ : MethodName) jdk_43_method_13_code 3 (some .boolean) :: ws) ({ frames := 0, cells := 0, slots := 0, locals := 0 } : Room)) (fun as_ U => as_ = #[(.ref b1), (.ref b2)] ∧ Z.Warmed39 U.vm ∧ U.heap = h0) (fun _ _ _ _ _ => True) (fun _ U o U' => ∃ v L, o = .returned v ∧ own_Q_own_leq11 Z b1 b2 k1 k2 x1 y1 h0 n0 v U'.heap L ∧ FrameEnd U o U' L ({ frames := 0, cells := 0, slots := 0, locals := 0 } : Room).cells ({ frames := 0, cells := 0, slots := 0, locals := 0 } : Room).slots) := by
  refine MetFree.of_bodySF (plainFor_of_name own_pn5) hisR ?_
  intro p e s m args below meth c s₁ Bd hml0 hP hK
  obtain ⟨rfl, hZ, hh⟩ := hP
  have hx := Bd.exec
  have hby := Bd.bytes
  have hml : c.maxLocals = 3 := hml0
  have hown : s.vm.findClass "java/lang/StringLatin1" = some m.cls := findClass_of_methodNamed Bd.named
  have hnm := (name_of_methodNamed Bd.named Bd.method).1
  have X0 : Stand p l e ({ frames := 0, cells := 0, slots := 0, locals := 0 } : Room) s m #[(.ref b1), (.ref b2)] below meth c s₁ [] 0 0 := Stand.of_body Bd
  have e0 : s₁.heap = h0 := by rw [← hh, Bd.state]; rfl
  have N0 := Fr.nil n0
  have pre0 : ∀ t, Steps p.tables e below (s₁.setTop (mkF m 0 #[.val (.ref b1), .val (.ref b2), .unset] [])) t → Steps p.tables e below (s₁.setTop (entryFrame m #[(.ref b1), (.ref b2)] 3)) t := fun t k => castTop (own_ef13 m b1 b2) k
  obtain ⟨cl1, Ar1, q1, S1, M1, H1, G1⟩ := id V1
  obtain ⟨cl2, Ar2, q2, S2, M2, H2, G2⟩ := id V2
  obtain ⟨cl3, Ar3, q3, S3, M3, H3, G3⟩ := id V1
  obtain ⟨cl4, Ar4, q4, S4, M4, H4, G4⟩ := id V1
  have hin4 : ¬ ((0 : Int32) < 0 ∨ cl4.slots.size ≤ ((0 : Int32)).toNatClampNeg) := inb_of S4 ⟨by decide, by decide⟩
  obtain ⟨cl5, Ar5, q5, S5, M5, H5, G5⟩ := id V2
  have hin5 : ¬ ((0 : Int32) < 0 ∨ cl5.slots.size ≤ ((0 : Int32)).toNatClampNeg) := inb_of S5 ⟨by decide, by decide⟩
  have pre6 : ∀ t, Steps p.tables e below (s₁.setTop (mkF m 21 #[.val (.ref b1), .val (.ref b2), .val (.int (0 : Int32))] [(.int y1), (.int x1)])) t → Steps p.tables e below (s₁.setTop (entryFrame m #[(.ref b1), (.ref b2)] 3)) t := fun t k => pre0 t (by
    show Steps p.tables e below (s₁.setTop (mkF m 0 #[.val (.ref b1), .val (.ref b2), .unset] [])) _
    refine XS.aloadN X0.here hx rfl (hb hby own_d13_0) rfl rfl ?_
    show Steps p.tables e below (s₁.setTop (mkF m 1 #[.val (.ref b1), .val (.ref b2), .unset] [(.ref b1)])) _
    refine X0.arraylength hx (by rw [e0]; exact Ar1.1) (State.isArrayOf_alike hZ.alike Ar1.2.1) (g := (mkF m 1 #[.val (.ref b1), .val (.ref b2), .unset] [(.ref b1)])) rfl rfl (hb hby own_d13_1) _ ?_
    rw [len_of S1 M1]
    show Steps p.tables e below (s₁.setTop (mkF m 2 #[.val (.ref b1), .val (.ref b2), .unset] [(.int (1 : Int32))])) _
    refine XS.aloadN X0.here hx rfl (hb hby own_d13_2) rfl rfl ?_
    show Steps p.tables e below (s₁.setTop (mkF m 3 #[.val (.ref b1), .val (.ref b2), .unset] [(.ref b2), (.int (1 : Int32))])) _
    refine X0.arraylength hx (by rw [e0]; exact Ar2.1) (State.isArrayOf_alike hZ.alike Ar2.2.1) (g := (mkF m 3 #[.val (.ref b1), .val (.ref b2), .unset] [(.ref b2), (.int (1 : Int32))])) rfl rfl (hb hby own_d13_3) _ ?_
    rw [len_of S2 M2]
    show Steps p.tables e below (s₁.setTop (mkF m 4 #[.val (.ref b1), .val (.ref b2), .unset] [(.int (1 : Int32)), (.int (1 : Int32))])) _
    refine XS.icmpNo X0.here hx rfl (hb hby own_d13_4) rfl (teq (by decide : (1 : Int32) = (1 : Int32))).2 ?_
    show Steps p.tables e below (s₁.setTop (mkF m 7 #[.val (.ref b1), .val (.ref b2), .unset] [])) _
    refine XS.iconst X0.here hx rfl (hb hby own_d13_7) ?_
    show Steps p.tables e below (s₁.setTop (mkF m 8 #[.val (.ref b1), .val (.ref b2), .unset] [(.int (0 : Int32))])) _
    refine XS.istoreN X0.here hx rfl (hb hby own_d13_8) rfl (l' := #[.val (.ref b1), .val (.ref b2), .val (.int (0 : Int32))]) rfl ?_
    show Steps p.tables e below (s₁.setTop (mkF m 9 #[.val (.ref b1), .val (.ref b2), .val (.int (0 : Int32))] [])) _
    refine XS.iloadN X0.here hx rfl (hb hby own_d13_9) rfl ?_
    show Steps p.tables e below (s₁.setTop (mkF m 10 #[.val (.ref b1), .val (.ref b2), .val (.int (0 : Int32))] [(.int (0 : Int32))])) _
    refine XS.aloadN X0.here hx rfl (hb hby own_d13_10) rfl rfl ?_
    show Steps p.tables e below (s₁.setTop (mkF m 11 #[.val (.ref b1), .val (.ref b2), .val (.int (0 : Int32))] [(.ref b1), (.int (0 : Int32))])) _
    refine X0.arraylength hx (by rw [e0]; exact Ar3.1) (State.isArrayOf_alike hZ.alike Ar3.2.1) (g := (mkF m 11 #[.val (.ref b1), .val (.ref b2), .val (.int (0 : Int32))] [(.ref b1), (.int (0 : Int32))])) rfl rfl (hb hby own_d13_11) _ ?_
    rw [len_of S3 M3]
    show Steps p.tables e below (s₁.setTop (mkF m 12 #[.val (.ref b1), .val (.ref b2), .val (.int (0 : Int32))] [(.int (1 : Int32)), (.int (0 : Int32))])) _
    refine XS.icmpNo X0.here hx rfl (hb hby own_d13_12) rfl (tlt (by decide : (0 : Int32) < (1 : Int32))).2.1 ?_
    show Steps p.tables e below (s₁.setTop (mkF m 15 #[.val (.ref b1), .val (.ref b2), .val (.int (0 : Int32))] [])) _
    refine XS.aloadN X0.here hx rfl (hb hby own_d13_15) rfl rfl ?_
    show Steps p.tables e below (s₁.setTop (mkF m 16 #[.val (.ref b1), .val (.ref b2), .val (.int (0 : Int32))] [(.ref b1)])) _
    refine XS.iloadN X0.here hx rfl (hb hby own_d13_16) rfl ?_
    show Steps p.tables e below (s₁.setTop (mkF m 17 #[.val (.ref b1), .val (.ref b2), .val (.int (0 : Int32))] [(.int (0 : Int32)), (.ref b1)])) _
    refine X0.baloadBytes hx (j := (0 : Int32)) (v := (.int x1)) (by rw [e0]; exact Ar4.1) (State.isArrayOf_alike hZ.alike Ar4.2.1) Ar4.2.2 hin4 (H4.at hin4 rfl) (g := (mkF m 17 #[.val (.ref b1), .val (.ref b2), .val (.int (0 : Int32))] [(.int (0 : Int32)), (.ref b1)])) rfl rfl (hb hby own_d13_17) _ ?_
    show Steps p.tables e below (s₁.setTop (mkF m 18 #[.val (.ref b1), .val (.ref b2), .val (.int (0 : Int32))] [(.int x1)])) _
    refine XS.aloadN X0.here hx rfl (hb hby own_d13_18) rfl rfl ?_
    show Steps p.tables e below (s₁.setTop (mkF m 19 #[.val (.ref b1), .val (.ref b2), .val (.int (0 : Int32))] [(.ref b2), (.int x1)])) _
    refine XS.iloadN X0.here hx rfl (hb hby own_d13_19) rfl ?_
    show Steps p.tables e below (s₁.setTop (mkF m 20 #[.val (.ref b1), .val (.ref b2), .val (.int (0 : Int32))] [(.int (0 : Int32)), (.ref b2), (.int x1)])) _
    refine X0.baloadBytes hx (j := (0 : Int32)) (v := (.int y1)) (by rw [e0]; exact Ar5.1) (State.isArrayOf_alike hZ.alike Ar5.2.1) Ar5.2.2 hin5 (H5.at hin5 rfl) (g := (mkF m 20 #[.val (.ref b1), .val (.ref b2), .val (.int (0 : Int32))] [(.int (0 : Int32)), (.ref b2), (.int x1)])) rfl rfl (hb hby own_d13_20) _ ?_
    show Steps p.tables e below (s₁.setTop (mkF m 21 #[.val (.ref b1), .val (.ref b2), .val (.int (0 : Int32))] [(.int y1), (.int x1)])) _
    exact k)
  by_cases hc7 : x1 = y1
  · skip
    obtain ⟨cl8, Ar8, q8, S8, M8, H8, G8⟩ := id V1
    obtain ⟨fs, hr, hrun, hended, hW, hsame⟩ := X0.leave (v := some (.int (1 : Int32))) (fun h => by rw [Bd.returns] at h; cases h)
    refine ⟨_, _, pre6 _ ?_, hrun, hended, _, _, rfl, ?_, ⟨_, rfl⟩, hW, hsame.mono (by decide) (by decide)⟩
    · refine XS.icmpYes X0.here hx rfl (pc0 := 21) (pc' := 26) rfl (hb hby own_d13_21) rfl (teq hc7).1 (by decide) (by decide) ?_
      show Steps p.tables e below (s₁.setTop (mkF m 26 #[.val (.ref b1), .val (.ref b2), .val (.int (0 : Int32))] [])) _
      refine XS.iinc X0.here hx rfl (hb hby own_d13_26) rfl (l' := #[.val (.ref b1), .val (.ref b2), .val (.int (1 : Int32))]) rfl ?_
      show Steps p.tables e below (s₁.setTop (mkF m 29 #[.val (.ref b1), .val (.ref b2), .val (.int (1 : Int32))] [])) _
      refine XS.goto X0.here hx rfl (pc0 := 29) (pc' := 9) rfl (hb hby own_d13_29) (by decide) (by decide) ?_
      show Steps p.tables e below (s₁.setTop (mkF m 9 #[.val (.ref b1), .val (.ref b2), .val (.int (1 : Int32))] [])) _
      refine XS.iloadN X0.here hx rfl (hb hby own_d13_9) rfl ?_
      show Steps p.tables e below (s₁.setTop (mkF m 10 #[.val (.ref b1), .val (.ref b2), .val (.int (1 : Int32))] [(.int (1 : Int32))])) _
      refine XS.aloadN X0.here hx rfl (hb hby own_d13_10) rfl rfl ?_
      show Steps p.tables e below (s₁.setTop (mkF m 11 #[.val (.ref b1), .val (.ref b2), .val (.int (1 : Int32))] [(.ref b1), (.int (1 : Int32))])) _
      refine X0.arraylength hx (by rw [e0]; exact Ar8.1) (State.isArrayOf_alike hZ.alike Ar8.2.1) (g := (mkF m 11 #[.val (.ref b1), .val (.ref b2), .val (.int (1 : Int32))] [(.ref b1), (.int (1 : Int32))])) rfl rfl (hb hby own_d13_11) _ ?_
      rw [len_of S8 M8]
      show Steps p.tables e below (s₁.setTop (mkF m 12 #[.val (.ref b1), .val (.ref b2), .val (.int (1 : Int32))] [(.int (1 : Int32)), (.int (1 : Int32))])) _
      refine XS.icmpYes X0.here hx rfl (pc0 := 12) (pc' := 32) rfl (hb hby own_d13_12) rfl (flt (by decide : ¬ ((1 : Int32) < (1 : Int32)))).2.1 (by decide) (by decide) ?_
      show Steps p.tables e below (s₁.setTop (mkF m 32 #[.val (.ref b1), .val (.ref b2), .val (.int (1 : Int32))] [])) _
      refine XS.iconst X0.here hx rfl (hb hby own_d13_32) ?_
      show Steps p.tables e below (s₁.setTop (mkF m 33 #[.val (.ref b1), .val (.ref b2), .val (.int (1 : Int32))] [(.int (1 : Int32))])) _
      exact retN X0 hx (t := .boolean) Bd.returns (by simp) (hb hby own_d13_33) hr
    · show own_Q_own_leq11 Z b1 b2 k1 k2 x1 y1 h0 n0 _ s₁.heap _
      rw [e0]
      exact ⟨by simp [hc7], N0, rfl⟩
  · skip
    obtain ⟨fs, hr, hrun, hended, hW, hsame⟩ := X0.leave (v := some (.int (0 : Int32))) (fun h => by rw [Bd.returns] at h; cases h)
    refine ⟨_, _, pre6 _ ?_, hrun, hended, _, _, rfl, ?_, ⟨_, rfl⟩, hW, hsame.mono (by decide) (by decide)⟩
    · refine XS.icmpNo X0.here hx rfl (hb hby own_d13_21) rfl (feq hc7).1 ?_
      show Steps p.tables e below (s₁.setTop (mkF m 24 #[.val (.ref b1), .val (.ref b2), .val (.int (0 : Int32))] [])) _
      refine XS.iconst X0.here hx rfl (hb hby own_d13_24) ?_
      show Steps p.tables e below (s₁.setTop (mkF m 25 #[.val (.ref b1), .val (.ref b2), .val (.int (0 : Int32))] [(.int (0 : Int32))])) _
      exact retN X0 hx (t := .boolean) Bd.returns (by simp) (hb hby own_d13_25) hr
    · show own_Q_own_leq11 Z b1 b2 k1 k2 x1 y1 h0 n0 _ s₁.heap _
      rw [e0]
      exact ⟨by simp [hc7], N0, rfl⟩
theorem own_pd7 : parseMethodDescriptor "([B[B)Z" = some ⟨[(.array .byte), (.array .byte)], some .boolean⟩ := by decide +kernel
theorem own_d12_0 : decode jdk_42_method_66_code 0 = .ok (.aload_n 0, 1) := by decide +kernel
theorem own_d12_1 : decode jdk_42_method_66_code 1 = .ok (.aload_n 1, 1) := by decide +kernel
theorem own_d12_2 : decode jdk_42_method_66_code 2 = .ok (.if_acmp .ne 5, 3) := by decide +kernel
theorem own_d12_7 : decode jdk_42_method_66_code 7 = .ok (.aload_n 1, 1) := by decide +kernel
theorem own_d12_8 : decode jdk_42_method_66_code 8 = .ok (.instanceof 10, 3) := by decide +kernel
theorem own_d12_11 : decode jdk_42_method_66_code 11 = .ok (.ifCond .eq 43, 3) := by decide +kernel
theorem own_d12_14 : decode jdk_42_method_66_code 14 = .ok (.aload_n 1, 1) := by decide +kernel
theorem own_d12_15 : decode jdk_42_method_66_code 15 = .ok (.checkcast 10, 3) := by decide +kernel
theorem own_d12_18 : decode jdk_42_method_66_code 18 = .ok (.astore_n 2, 1) := by decide +kernel
theorem own_d12_19 : decode jdk_42_method_66_code 19 = .ok (.getstatic 38, 3) := by decide +kernel
theorem own_d12_22 : decode jdk_42_method_66_code 22 = .ok (.ifCond .eq 14, 3) := by decide +kernel
theorem own_d12_25 : decode jdk_42_method_66_code 25 = .ok (.aload_n 0, 1) := by decide +kernel
theorem own_d12_26 : decode jdk_42_method_66_code 26 = .ok (.getfield 15, 3) := by decide +kernel
theorem own_d12_29 : decode jdk_42_method_66_code 29 = .ok (.aload_n 2, 1) := by decide +kernel
theorem own_d12_30 : decode jdk_42_method_66_code 30 = .ok (.getfield 15, 3) := by decide +kernel
theorem own_d12_33 : decode jdk_42_method_66_code 33 = .ok (.if_icmp .ne 21, 3) := by decide +kernel
theorem own_d12_36 : decode jdk_42_method_66_code 36 = .ok (.aload_n 0, 1) := by decide +kernel
theorem own_d12_37 : decode jdk_42_method_66_code 37 = .ok (.getfield 9, 3) := by decide +kernel
theorem own_d12_40 : decode jdk_42_method_66_code 40 = .ok (.aload_n 2, 1) := by decide +kernel
theorem own_d12_41 : decode jdk_42_method_66_code 41 = .ok (.getfield 9, 3) := by decide +kernel
theorem own_d12_44 : decode jdk_42_method_66_code 44 = .ok (.invokestatic 541, 3) := by decide +kernel
theorem own_d12_47 : decode jdk_42_method_66_code 47 = .ok (.ifCond .eq 7, 3) := by decide +kernel
theorem own_d12_50 : decode jdk_42_method_66_code 50 = .ok (.iconst 1, 1) := by decide +kernel
theorem own_d12_51 : decode jdk_42_method_66_code 51 = .ok (.goto 4, 3) := by decide +kernel
theorem own_d12_54 : decode jdk_42_method_66_code 54 = .ok (.iconst 0, 1) := by decide +kernel
theorem own_d12_55 : decode jdk_42_method_66_code 55 = .ok (.ireturn, 1) := by decide +kernel
theorem own_ef12 (m : MethodId) (x0 : Addr) (x1 : Addr) : entryFrame m #[(.ref x0), (.ref x1)] 3 = mkF m 0 #[.val (.ref x0), .val (.ref x1), .unset] [] := by first | (simp [entryFrame, mkF, argsToLocals, Value.category]; done) | rfl
def own_Q_own_seq11 (Z : State) (s1 : Addr) (s2 : Addr) (b1 : Addr) (b2 : Addr) (k1 : ClassId) (k2 : ClassId) (cz : Int32) (x1 : Int32) (y1 : Int32) (h0 : Heap) (n0 : Nat) (v : Option Value) (h : Heap) (L : List Loc) : Prop := v = some (.int (if x1 = y1 then (1 : Int32) else (0 : Int32))) ∧ Fr n0 L ∧ h = h0
set_option maxRecDepth 65536 in
set_option maxHeartbeats 40000000 in
theorem own_seq11 (l : Launch) (Z : State) (a0 : Array Value) (hw : ∀ d ∈ tables_1, d.before a0 Z = true) (ws : List Jvm.Cond) (s1 : Addr) (s2 : Addr) (b1 : Addr) (b2 : Addr) (k1 : ClassId) (k2 : ClassId) (cz : Int32) (x1 : Int32) (y1 : Int32) (h0 : Heap) (n0 : Nat) (Z0 : n0 ≤ h0.size) (E1 : Exa Z h0 s1 "java/lang/String") (Fc1 : Fld Z h0 s1 "java/lang/String" "coder" "B" (.int (0 : Int32))) (Fv1 : Fld Z h0 s1 "java/lang/String" "value" "[B" (.ref b1)) (V1 : Arv Z h0 b1 k1 .byte (1 : Int32) [(.int x1)] (.int (0 : Int32))) (E2 : Exa Z h0 s2 "java/lang/String") (Fc2 : Fld Z h0 s2 "java/lang/String" "coder" "B" (.int (0 : Int32))) (Fv2 : Fld Z h0 s2 "java/lang/String" "value" "[B" (.ref b2)) (V2 : Arv Z h0 b2 k2 .byte (1 : Int32) [(.int y1)] (.int (0 : Int32))) (ne1 : s1 ≠ s2) (S : Sta Z h0 "java/lang/String" "COMPACT_STRINGS" "Z" (.int cz)) (hcz : ¬ (cz = (0 : Int32))) :
    MetFree l (⟨"java/lang/String", "equals", "(Ljava/lang/Object;)Z"⟩ : MethodName) (head1 (Jvm.Cond.code (⟨"java/lang/String", "equals", "(Ljava/lang/Object;)Z"⟩ : MethodName) jdk_42_method_66_code 3 (some .boolean) :: ws) ({ frames := 1, cells := 0, slots := 0, locals := 14 } : Room)) (fun as_ U => as_ = #[(.ref s1), (.ref s2)] ∧ Z.Warmed39 U.vm ∧ U.heap = h0) (fun _ _ _ _ _ => True) (fun _ U o U' => ∃ v L, o = .returned v ∧ own_Q_own_seq11 Z s1 s2 b1 b2 k1 k2 cz x1 y1 h0 n0 v U'.heap L ∧ FrameEnd U o U' L ({ frames := 1, cells := 0, slots := 0, locals := 14 } : Room).cells ({ frames := 1, cells := 0, slots := 0, locals := 14 } : Room).slots) := by
  refine MetFree.of_bodySF (plainFor_of_name own_pn1) hisR ?_
  intro p e s m args below meth c s₁ Bd hml0 hP hK
  obtain ⟨rfl, hZ, hh⟩ := hP
  have hx := Bd.exec
  have hby := Bd.bytes
  have hml : c.maxLocals = 3 := hml0
  have hown : s.vm.findClass "java/lang/String" = some m.cls := findClass_of_methodNamed Bd.named
  have hnm := (name_of_methodNamed Bd.named Bd.method).1
  have X0 : Stand p l e ({ frames := 1, cells := 0, slots := 0, locals := 14 } : Room) s m #[(.ref s1), (.ref s2)] below meth c s₁ [] 0 0 := Stand.of_body Bd
  have e0 : s₁.heap = h0 := by rw [← hh, Bd.state]; rfl
  have N0 := Fr.nil n0
  have pre0 : ∀ t, Steps p.tables e below (s₁.setTop (mkF m 0 #[.val (.ref s1), .val (.ref s2), .unset] [])) t → Steps p.tables e below (s₁.setTop (entryFrame m #[(.ref s1), (.ref s2)] 3)) t := fun t k => castTop (own_ef12 m s1 s2) k
  obtain ⟨T1, X1, e1, st1⟩ := instY X0 hx hZ hown (hw _ (List.mem_of_getElem? (i := 73) rfl)) e0 (Ins.self E2) (g := (mkF m 8 #[.val (.ref s1), .val (.ref s2), .unset] [(.ref s2)])) rfl rfl (hb hby own_d12_8)
  obtain ⟨T2, X2, e2, st2⟩ := castY X1 hx hZ hown (hw _ (List.mem_of_getElem? (i := 73) rfl)) e1 (Ins.self E2) (g := (mkF m 15 #[.val (.ref s1), .val (.ref s2), .unset] [(.ref s2)])) rfl rfl (hb hby own_d12_15)
  obtain ⟨T3, X3, e3, st3⟩ := getS2 X2 hx hZ hown (host := "") (Or.inl (hw _ (List.mem_of_getElem? (i := 15) rfl))) Via.refl e2 S (g := (mkF m 19 #[.val (.ref s1), .val (.ref s2), .val (.ref s2)] [])) rfl (hb hby own_d12_19)
  obtain ⟨T4, X4, e4, st4⟩ := getF X3 hx hZ hown (host := "") (Or.inl (hw _ (List.mem_of_getElem? (i := 27) rfl))) Via.refl e3 Fc1 (g := (mkF m 26 #[.val (.ref s1), .val (.ref s2), .val (.ref s2)] [(.ref s1)])) rfl rfl (hb hby own_d12_26)
  obtain ⟨T5, X5, e5, st5⟩ := getF X4 hx hZ hown (host := "") (Or.inl (hw _ (List.mem_of_getElem? (i := 27) rfl))) Via.refl e4 Fc2 (g := (mkF m 30 #[.val (.ref s1), .val (.ref s2), .val (.ref s2)] [(.ref s2), (.int (0 : Int32))])) rfl rfl (hb hby own_d12_30)
  obtain ⟨T6, X6, e6, st6⟩ := getF X5 hx hZ hown (host := "") (Or.inl (hw _ (List.mem_of_getElem? (i := 29) rfl))) Via.refl e5 Fv1 (g := (mkF m 37 #[.val (.ref s1), .val (.ref s2), .val (.ref s2)] [(.ref s1)])) rfl rfl (hb hby own_d12_37)
  obtain ⟨T7, X7, e7, st7⟩ := getF X6 hx hZ hown (host := "") (Or.inl (hw _ (List.mem_of_getElem? (i := 29) rfl))) Via.refl e6 Fv2 (g := (mkF m 41 #[.val (.ref s1), .val (.ref s2), .val (.ref s2)] [(.ref s2), (.ref b1)])) rfl rfl (hb hby own_d12_41)
  obtain ⟨_, _, ⟨T8, L8, k8, n8⟩, -, X8, ⟨Lc8, hQ8, l8, y8, z8⟩, st8⟩ := Jvm.LawKit.callS X7 hx (y := (⟨"java/lang/StringLatin1", "equals", "([B[B)Z"⟩ : MethodName)) hown (mvT hZ (hw _ (List.mem_of_getElem? (i := 74) rfl))) (mvT hZ (hw _ (List.mem_of_getElem? (i := 75) rfl))) (mvT hZ (hw _ (List.mem_of_getElem? (i := 76) rfl))) (mvT hZ (hw _ (List.mem_of_getElem? (i := 77) rfl))) (by decide) (backOf (W := 0) (own_leq11 l Z a0 hw [] b1 b2 k1 k2 x1 y1 h0 n0 Z0 V1 V2) hZ (hw _ (List.mem_of_getElem? (i := 77) rfl)) (hw _ (List.mem_of_getElem? (i := 76) rfl)) (by decide) (by decide)) (g := (mkF m 44 #[.val (.ref s1), .val (.ref s2), .val (.ref s2)] [(.ref b2), (.ref b1)])) rfl (by rw [hml]; rfl) (argsL := [(.ref b1), (.ref b2)]) (rest := []) (lenOf own_pd7 rfl) rfl (by show 2 * 0 + _ ≤ _; exact Nat.le_of_eq rfl) (hb hby own_d12_44) (fun _ _ => ⟨rfl, e7, (by decide : 0 + 0 ≤ _), (by decide : 0 + 0 ≤ _)⟩)
  dsimp only [Pt.U, Pt.locs, Pt.cells, Pt.slots] at X8 l8 y8 z8 st8 hQ8
  subst l8 y8 z8
  obtain ⟨rfl, N8q, e8⟩ := hQ8
  have N8 := Fr.app N0 N8q
  have pre9 : ∀ t, Steps p.tables e below (T8.setTop (mkF m 47 #[.val (.ref s1), .val (.ref s2), .val (.ref s2)] [(.int (if x1 = y1 then (1 : Int32) else (0 : Int32)))])) t → Steps p.tables e below (s₁.setTop (entryFrame m #[(.ref s1), (.ref s2)] 3)) t := fun t k => pre0 t (by
    show Steps p.tables e below (s₁.setTop (mkF m 0 #[.val (.ref s1), .val (.ref s2), .unset] [])) _
    refine XS.aloadN X0.here hx rfl (hb hby own_d12_0) rfl rfl ?_
    show Steps p.tables e below (s₁.setTop (mkF m 1 #[.val (.ref s1), .val (.ref s2), .unset] [(.ref s1)])) _
    refine XS.aloadN X0.here hx rfl (hb hby own_d12_1) rfl rfl ?_
    show Steps p.tables e below (s₁.setTop (mkF m 2 #[.val (.ref s1), .val (.ref s2), .unset] [(.ref s2), (.ref s1)])) _
    refine Jvm.RoadKit.acmp (g := (mkF m 2 #[.val (.ref s1), .val (.ref s2), .unset] [(.ref s2), (.ref s1)])) X0 hx rfl rfl rfl (pc0 := 2) (pc' := 7) (same := false) rfl (hb hby own_d12_2) rfl (decide_eq_false fun q => ne1 (Value.ref.inj q)) (by decide) (by decide) ?_
    show Steps p.tables e below (s₁.setTop (mkF m 7 #[.val (.ref s1), .val (.ref s2), .unset] [])) _
    refine XS.aloadN X0.here hx rfl (hb hby own_d12_7) rfl rfl ?_
    show Steps p.tables e below (s₁.setTop (mkF m 8 #[.val (.ref s1), .val (.ref s2), .unset] [(.ref s2)])) _
    refine st1 _ ?_
    show Steps p.tables e below (T1.setTop (mkF m 11 #[.val (.ref s1), .val (.ref s2), .unset] [(.int (1 : Int32))])) _
    refine XS.ifNo X1.here hx rfl (hb hby own_d12_11) rfl ((if0 _ _).trans (feq (by decide : ¬ ((1 : Int32) = (0 : Int32)))).1) ?_
    show Steps p.tables e below (T1.setTop (mkF m 14 #[.val (.ref s1), .val (.ref s2), .unset] [])) _
    refine XS.aloadN X1.here hx rfl (hb hby own_d12_14) rfl rfl ?_
    show Steps p.tables e below (T1.setTop (mkF m 15 #[.val (.ref s1), .val (.ref s2), .unset] [(.ref s2)])) _
    refine st2 _ ?_
    show Steps p.tables e below (T2.setTop (mkF m 18 #[.val (.ref s1), .val (.ref s2), .unset] [(.ref s2)])) _
    refine XS.astoreN X2.here hx rfl (hb hby own_d12_18) rfl rfl (l' := #[.val (.ref s1), .val (.ref s2), .val (.ref s2)]) rfl ?_
    show Steps p.tables e below (T2.setTop (mkF m 19 #[.val (.ref s1), .val (.ref s2), .val (.ref s2)] [])) _
    refine st3 _ ?_
    show Steps p.tables e below (T3.setTop (mkF m 22 #[.val (.ref s1), .val (.ref s2), .val (.ref s2)] [(.int cz)])) _
    refine XS.ifNo X3.here hx rfl (hb hby own_d12_22) rfl ((if0 _ _).trans (feq hcz).1) ?_
    show Steps p.tables e below (T3.setTop (mkF m 25 #[.val (.ref s1), .val (.ref s2), .val (.ref s2)] [])) _
    refine XS.aloadN X3.here hx rfl (hb hby own_d12_25) rfl rfl ?_
    show Steps p.tables e below (T3.setTop (mkF m 26 #[.val (.ref s1), .val (.ref s2), .val (.ref s2)] [(.ref s1)])) _
    refine st4 _ ?_
    show Steps p.tables e below (T4.setTop (mkF m 29 #[.val (.ref s1), .val (.ref s2), .val (.ref s2)] [(.int (0 : Int32))])) _
    refine XS.aloadN X4.here hx rfl (hb hby own_d12_29) rfl rfl ?_
    show Steps p.tables e below (T4.setTop (mkF m 30 #[.val (.ref s1), .val (.ref s2), .val (.ref s2)] [(.ref s2), (.int (0 : Int32))])) _
    refine st5 _ ?_
    show Steps p.tables e below (T5.setTop (mkF m 33 #[.val (.ref s1), .val (.ref s2), .val (.ref s2)] [(.int (0 : Int32)), (.int (0 : Int32))])) _
    refine XS.icmpNo X5.here hx rfl (hb hby own_d12_33) rfl (teq (by decide : (0 : Int32) = (0 : Int32))).2 ?_
    show Steps p.tables e below (T5.setTop (mkF m 36 #[.val (.ref s1), .val (.ref s2), .val (.ref s2)] [])) _
    refine XS.aloadN X5.here hx rfl (hb hby own_d12_36) rfl rfl ?_
    show Steps p.tables e below (T5.setTop (mkF m 37 #[.val (.ref s1), .val (.ref s2), .val (.ref s2)] [(.ref s1)])) _
    refine st6 _ ?_
    show Steps p.tables e below (T6.setTop (mkF m 40 #[.val (.ref s1), .val (.ref s2), .val (.ref s2)] [(.ref b1)])) _
    refine XS.aloadN X6.here hx rfl (hb hby own_d12_40) rfl rfl ?_
    show Steps p.tables e below (T6.setTop (mkF m 41 #[.val (.ref s1), .val (.ref s2), .val (.ref s2)] [(.ref s2), (.ref b1)])) _
    refine st7 _ ?_
    show Steps p.tables e below (T7.setTop (mkF m 44 #[.val (.ref s1), .val (.ref s2), .val (.ref s2)] [(.ref b2), (.ref b1)])) _
    refine st8 _ ?_
    show Steps p.tables e below (T8.setTop (mkF m 47 #[.val (.ref s1), .val (.ref s2), .val (.ref s2)] [(.int (if x1 = y1 then (1 : Int32) else (0 : Int32)))])) _
    exact k)
  by_cases hc10 : x1 = y1
  · skip
    obtain ⟨fs, hr, hrun, hended, hW, hsame⟩ := X8.leave (v := some (.int (1 : Int32))) (fun h => by rw [Bd.returns] at h; cases h)
    refine ⟨_, _, pre9 _ ?_, hrun, hended, _, _, rfl, ?_, ⟨_, rfl⟩, hW, hsame.mono (by decide) (by decide)⟩
    · refine XS.ifNo X8.here hx rfl (hb hby own_d12_47) rfl ((if0 _ _).trans (feq (fun q => absurd ((if_pos hc10).symm.trans q) (by decide))).1) ?_
      show Steps p.tables e below (T8.setTop (mkF m 50 #[.val (.ref s1), .val (.ref s2), .val (.ref s2)] [])) _
      refine XS.iconst X8.here hx rfl (hb hby own_d12_50) ?_
      show Steps p.tables e below (T8.setTop (mkF m 51 #[.val (.ref s1), .val (.ref s2), .val (.ref s2)] [(.int (1 : Int32))])) _
      refine XS.goto X8.here hx rfl (pc0 := 51) (pc' := 55) rfl (hb hby own_d12_51) (by decide) (by decide) ?_
      show Steps p.tables e below (T8.setTop (mkF m 55 #[.val (.ref s1), .val (.ref s2), .val (.ref s2)] [(.int (1 : Int32))])) _
      exact retN X8 hx (t := .boolean) Bd.returns (by simp) (hb hby own_d12_55) hr
    · show own_Q_own_seq11 Z s1 s2 b1 b2 k1 k2 cz x1 y1 h0 n0 _ T8.heap _
      rw [e8]
      exact ⟨by simp [hc10], N8, rfl⟩
  · skip
    obtain ⟨fs, hr, hrun, hended, hW, hsame⟩ := X8.leave (v := some (.int (0 : Int32))) (fun h => by rw [Bd.returns] at h; cases h)
    refine ⟨_, _, pre9 _ ?_, hrun, hended, _, _, rfl, ?_, ⟨_, rfl⟩, hW, hsame.mono (by decide) (by decide)⟩
    · refine XS.ifYes X8.here hx rfl (pc0 := 47) (pc' := 54) rfl (hb hby own_d12_47) rfl ((if0 _ _).trans (teq (if_neg hc10)).1) (by decide) (by decide) ?_
      show Steps p.tables e below (T8.setTop (mkF m 54 #[.val (.ref s1), .val (.ref s2), .val (.ref s2)] [])) _
      refine XS.iconst X8.here hx rfl (hb hby own_d12_54) ?_
      show Steps p.tables e below (T8.setTop (mkF m 55 #[.val (.ref s1), .val (.ref s2), .val (.ref s2)] [(.int (0 : Int32))])) _
      exact retN X8 hx (t := .boolean) Bd.returns (by simp) (hb hby own_d12_55) hr
    · show own_Q_own_seq11 Z s1 s2 b1 b2 k1 k2 cz x1 y1 h0 n0 _ T8.heap _
      rw [e8]
      exact ⟨by simp [hc10], N8, rfl⟩
theorem own_pd8 : parseMethodDescriptor "(Ljava/lang/Object;)Z" = some ⟨[(.object "java/lang/Object")], some .boolean⟩ := by decide +kernel
theorem own_d11_0 : decode prog_59_method_2_code 0 = .ok (.aload_n 1, 1) := by decide +kernel
theorem own_d11_1 : decode prog_59_method_2_code 1 = .ok (.instanceof 31, 3) := by decide +kernel
theorem own_d11_4 : decode prog_59_method_2_code 4 = .ok (.ifCond .eq 37, 3) := by decide +kernel
theorem own_d11_7 : decode prog_59_method_2_code 7 = .ok (.aload_n 1, 1) := by decide +kernel
theorem own_d11_8 : decode prog_59_method_2_code 8 = .ok (.checkcast 31, 3) := by decide +kernel
theorem own_d11_11 : decode prog_59_method_2_code 11 = .ok (.astore_n 2, 1) := by decide +kernel
theorem own_d11_12 : decode prog_59_method_2_code 12 = .ok (.aload_n 0, 1) := by decide +kernel
theorem own_d11_13 : decode prog_59_method_2_code 13 = .ok (.getfield 35, 3) := by decide +kernel
theorem own_d11_16 : decode prog_59_method_2_code 16 = .ok (.aload_n 2, 1) := by decide +kernel
theorem own_d11_17 : decode prog_59_method_2_code 17 = .ok (.getfield 35, 3) := by decide +kernel
theorem own_d11_20 : decode prog_59_method_2_code 20 = .ok (.if_icmp .ne 21, 3) := by decide +kernel
theorem own_d11_23 : decode prog_59_method_2_code 23 = .ok (.aload_n 0, 1) := by decide +kernel
theorem own_d11_24 : decode prog_59_method_2_code 24 = .ok (.getfield 30, 3) := by decide +kernel
theorem own_d11_27 : decode prog_59_method_2_code 27 = .ok (.aload_n 2, 1) := by decide +kernel
theorem own_d11_28 : decode prog_59_method_2_code 28 = .ok (.getfield 30, 3) := by decide +kernel
theorem own_d11_31 : decode prog_59_method_2_code 31 = .ok (.invokevirtual 39, 3) := by decide +kernel
theorem own_d11_34 : decode prog_59_method_2_code 34 = .ok (.ifCond .eq 7, 3) := by decide +kernel
theorem own_d11_37 : decode prog_59_method_2_code 37 = .ok (.iconst 1, 1) := by decide +kernel
theorem own_d11_38 : decode prog_59_method_2_code 38 = .ok (.goto 4, 3) := by decide +kernel
theorem own_d11_41 : decode prog_59_method_2_code 41 = .ok (.iconst 0, 1) := by decide +kernel
theorem own_d11_42 : decode prog_59_method_2_code 42 = .ok (.ireturn, 1) := by decide +kernel
theorem own_ef11 (m : MethodId) (x0 : Addr) (x1 : Addr) : entryFrame m #[(.ref x0), (.ref x1)] 3 = mkF m 0 #[.val (.ref x0), .val (.ref x1), .unset] [] := by first | (simp [entryFrame, mkF, argsToLocals, Value.category]; done) | rfl
def own_Q_own_teq11 (Z : State) (t1 : Addr) (t2 : Addr) (s1 : Addr) (s2 : Addr) (w1 : Int32) (w2 : Int32) (b1 : Addr) (b2 : Addr) (k1 : ClassId) (k2 : ClassId) (cz : Int32) (x1 : Int32) (y1 : Int32) (h0 : Heap) (n0 : Nat) (v : Option Value) (h : Heap) (L : List Loc) : Prop := v = some (.int (if w1 = w2 ∧ x1 = y1 then (1 : Int32) else (0 : Int32))) ∧ Fr n0 L ∧ h = h0
set_option maxRecDepth 65536 in
set_option maxHeartbeats 40000000 in
theorem own_teq11 (l : Launch) (Z : State) (a0 : Array Value) (hw : ∀ d ∈ tables_1, d.before a0 Z = true) (ws : List Jvm.Cond) (t1 : Addr) (t2 : Addr) (s1 : Addr) (s2 : Addr) (w1 : Int32) (w2 : Int32) (b1 : Addr) (b2 : Addr) (k1 : ClassId) (k2 : ClassId) (cz : Int32) (x1 : Int32) (y1 : Int32) (h0 : Heap) (n0 : Nat) (Z0 : n0 ≤ h0.size) (Et : Exa Z h0 t2 "com/example/vigilant_consumer/vigilantconsumer/TopicPartition") (Fat : Fld Z h0 t1 "com/example/vigilant_consumer/vigilantconsumer/TopicPartition" "topic" "Ljava/lang/String;" (.ref s1)) (Fap : Fld Z h0 t1 "com/example/vigilant_consumer/vigilantconsumer/TopicPartition" "partition" "I" (.int w1)) (Fbt : Fld Z h0 t2 "com/example/vigilant_consumer/vigilantconsumer/TopicPartition" "topic" "Ljava/lang/String;" (.ref s2)) (Fbp : Fld Z h0 t2 "com/example/vigilant_consumer/vigilantconsumer/TopicPartition" "partition" "I" (.int w2)) (E1 : Exa Z h0 s1 "java/lang/String") (Fc1 : Fld Z h0 s1 "java/lang/String" "coder" "B" (.int (0 : Int32))) (Fv1 : Fld Z h0 s1 "java/lang/String" "value" "[B" (.ref b1)) (V1 : Arv Z h0 b1 k1 .byte (1 : Int32) [(.int x1)] (.int (0 : Int32))) (E2 : Exa Z h0 s2 "java/lang/String") (Fc2 : Fld Z h0 s2 "java/lang/String" "coder" "B" (.int (0 : Int32))) (Fv2 : Fld Z h0 s2 "java/lang/String" "value" "[B" (.ref b2)) (V2 : Arv Z h0 b2 k2 .byte (1 : Int32) [(.int y1)] (.int (0 : Int32))) (ne1 : s1 ≠ s2) (S : Sta Z h0 "java/lang/String" "COMPACT_STRINGS" "Z" (.int cz)) (hcz : ¬ (cz = (0 : Int32))) :
    MetFree l (⟨"com/example/vigilant_consumer/vigilantconsumer/TopicPartition", "equals", "(Ljava/lang/Object;)Z"⟩ : MethodName) (head1 (Jvm.Cond.code (⟨"com/example/vigilant_consumer/vigilantconsumer/TopicPartition", "equals", "(Ljava/lang/Object;)Z"⟩ : MethodName) prog_59_method_2_code 3 (some .boolean) :: ws) ({ frames := 2, cells := 0, slots := 0, locals := 28 } : Room)) (fun as_ U => as_ = #[(.ref t1), (.ref t2)] ∧ Z.Warmed39 U.vm ∧ U.heap = h0) (fun _ _ _ _ _ => True) (fun _ U o U' => ∃ v L, o = .returned v ∧ own_Q_own_teq11 Z t1 t2 s1 s2 w1 w2 b1 b2 k1 k2 cz x1 y1 h0 n0 v U'.heap L ∧ FrameEnd U o U' L ({ frames := 2, cells := 0, slots := 0, locals := 28 } : Room).cells ({ frames := 2, cells := 0, slots := 0, locals := 28 } : Room).slots) := by
  refine MetFree.of_bodySF (plainFor_of_name own_pn4) hisR ?_
  intro p e s m args below meth c s₁ Bd hml0 hP hK
  obtain ⟨rfl, hZ, hh⟩ := hP
  have hx := Bd.exec
  have hby := Bd.bytes
  have hml : c.maxLocals = 3 := hml0
  have hown : s.vm.findClass "com/example/vigilant_consumer/vigilantconsumer/TopicPartition" = some m.cls := findClass_of_methodNamed Bd.named
  have hnm := (name_of_methodNamed Bd.named Bd.method).1
  have X0 : Stand p l e ({ frames := 2, cells := 0, slots := 0, locals := 28 } : Room) s m #[(.ref t1), (.ref t2)] below meth c s₁ [] 0 0 := Stand.of_body Bd
  have e0 : s₁.heap = h0 := by rw [← hh, Bd.state]; rfl
  have N0 := Fr.nil n0
  have pre0 : ∀ t, Steps p.tables e below (s₁.setTop (mkF m 0 #[.val (.ref t1), .val (.ref t2), .unset] [])) t → Steps p.tables e below (s₁.setTop (entryFrame m #[(.ref t1), (.ref t2)] 3)) t := fun t k => castTop (own_ef11 m t1 t2) k
  obtain ⟨T1, X1, e1, st1⟩ := instY X0 hx hZ hown (hw _ (List.mem_of_getElem? (i := 64) rfl)) e0 (Ins.self Et) (g := (mkF m 1 #[.val (.ref t1), .val (.ref t2), .unset] [(.ref t2)])) rfl rfl (hb hby own_d11_1)
  obtain ⟨T2, X2, e2, st2⟩ := castY X1 hx hZ hown (hw _ (List.mem_of_getElem? (i := 64) rfl)) e1 (Ins.self Et) (g := (mkF m 8 #[.val (.ref t1), .val (.ref t2), .unset] [(.ref t2)])) rfl rfl (hb hby own_d11_8)
  obtain ⟨T3, X3, e3, st3⟩ := getF X2 hx hZ hown (host := "") (Or.inl (hw _ (List.mem_of_getElem? (i := 57) rfl))) Via.refl e2 Fap (g := (mkF m 13 #[.val (.ref t1), .val (.ref t2), .val (.ref t2)] [(.ref t1)])) rfl rfl (hb hby own_d11_13)
  obtain ⟨T4, X4, e4, st4⟩ := getF X3 hx hZ hown (host := "") (Or.inl (hw _ (List.mem_of_getElem? (i := 57) rfl))) Via.refl e3 Fbp (g := (mkF m 17 #[.val (.ref t1), .val (.ref t2), .val (.ref t2)] [(.ref t2), (.int w1)])) rfl rfl (hb hby own_d11_17)
  have pre5 : ∀ t, Steps p.tables e below (T4.setTop (mkF m 20 #[.val (.ref t1), .val (.ref t2), .val (.ref t2)] [(.int w2), (.int w1)])) t → Steps p.tables e below (s₁.setTop (entryFrame m #[(.ref t1), (.ref t2)] 3)) t := fun t k => pre0 t (by
    show Steps p.tables e below (s₁.setTop (mkF m 0 #[.val (.ref t1), .val (.ref t2), .unset] [])) _
    refine XS.aloadN X0.here hx rfl (hb hby own_d11_0) rfl rfl ?_
    show Steps p.tables e below (s₁.setTop (mkF m 1 #[.val (.ref t1), .val (.ref t2), .unset] [(.ref t2)])) _
    refine st1 _ ?_
    show Steps p.tables e below (T1.setTop (mkF m 4 #[.val (.ref t1), .val (.ref t2), .unset] [(.int (1 : Int32))])) _
    refine XS.ifNo X1.here hx rfl (hb hby own_d11_4) rfl ((if0 _ _).trans (feq (by decide : ¬ ((1 : Int32) = (0 : Int32)))).1) ?_
    show Steps p.tables e below (T1.setTop (mkF m 7 #[.val (.ref t1), .val (.ref t2), .unset] [])) _
    refine XS.aloadN X1.here hx rfl (hb hby own_d11_7) rfl rfl ?_
    show Steps p.tables e below (T1.setTop (mkF m 8 #[.val (.ref t1), .val (.ref t2), .unset] [(.ref t2)])) _
    refine st2 _ ?_
    show Steps p.tables e below (T2.setTop (mkF m 11 #[.val (.ref t1), .val (.ref t2), .unset] [(.ref t2)])) _
    refine XS.astoreN X2.here hx rfl (hb hby own_d11_11) rfl rfl (l' := #[.val (.ref t1), .val (.ref t2), .val (.ref t2)]) rfl ?_
    show Steps p.tables e below (T2.setTop (mkF m 12 #[.val (.ref t1), .val (.ref t2), .val (.ref t2)] [])) _
    refine XS.aloadN X2.here hx rfl (hb hby own_d11_12) rfl rfl ?_
    show Steps p.tables e below (T2.setTop (mkF m 13 #[.val (.ref t1), .val (.ref t2), .val (.ref t2)] [(.ref t1)])) _
    refine st3 _ ?_
    show Steps p.tables e below (T3.setTop (mkF m 16 #[.val (.ref t1), .val (.ref t2), .val (.ref t2)] [(.int w1)])) _
    refine XS.aloadN X3.here hx rfl (hb hby own_d11_16) rfl rfl ?_
    show Steps p.tables e below (T3.setTop (mkF m 17 #[.val (.ref t1), .val (.ref t2), .val (.ref t2)] [(.ref t2), (.int w1)])) _
    refine st4 _ ?_
    show Steps p.tables e below (T4.setTop (mkF m 20 #[.val (.ref t1), .val (.ref t2), .val (.ref t2)] [(.int w2), (.int w1)])) _
    exact k)
  by_cases hc6 : w1 = w2
  · skip
    obtain ⟨T7, X7, e7, st7⟩ := getF X4 hx hZ hown (host := "") (Or.inl (hw _ (List.mem_of_getElem? (i := 55) rfl))) Via.refl e4 Fat (g := (mkF m 24 #[.val (.ref t1), .val (.ref t2), .val (.ref t2)] [(.ref t1)])) rfl rfl (hb hby own_d11_24)
    obtain ⟨T8, X8, e8, st8⟩ := getF X7 hx hZ hown (host := "") (Or.inl (hw _ (List.mem_of_getElem? (i := 55) rfl))) Via.refl e7 Fbt (g := (mkF m 28 #[.val (.ref t1), .val (.ref t2), .val (.ref t2)] [(.ref t2), (.ref s1)])) rfl rfl (hb hby own_d11_28)
    obtain ⟨cq9, kq9, q9a, q9b, q9c⟩ := isOf hZ e8 E1
    obtain ⟨_, _, ⟨T9, L9, k9, n9⟩, -, X9, ⟨Lc9, hQ9, l9, y9, z9⟩, st9⟩ := X8.virtualBack hx (y := (⟨"java/lang/String", "equals", "(Ljava/lang/Object;)Z"⟩ : MethodName)) (z := (⟨"java/lang/String", "equals", "(Ljava/lang/Object;)Z"⟩ : MethodName)) hown (mvT hZ (hw _ (List.mem_of_getElem? (i := 68) rfl))) (mvT hZ (hw _ (List.mem_of_getElem? (i := 69) rfl))) (notFace_of_selects (args := #[]) (mvT hZ (hw _ (List.mem_of_getElem? (i := 71) rfl)))) (mvT hZ (hw _ (List.mem_of_getElem? (i := 71) rfl))) (mvT hZ (hw _ (List.mem_of_getElem? (i := 70) rfl))) (by decide) (backOf (W := 0) (own_seq11 l Z a0 hw [] s1 s2 b1 b2 k1 k2 cz x1 y1 h0 n0 Z0 E1 Fc1 Fv1 V1 E2 Fc2 Fv2 V2 ne1 S hcz) hZ (hw _ (List.mem_of_getElem? (i := 72) rfl)) (hw _ (List.mem_of_getElem? (i := 3) rfl)) (by decide) (by decide)) q9a q9c (g := (mkF m 31 #[.val (.ref t1), .val (.ref t2), .val (.ref t2)] [(.ref s2), (.ref s1)])) rfl (by rw [hml]; rfl) (Steps.refl _) (argsL := [(.ref s2)]) (rest := []) (lenOf own_pd8 rfl) rfl (by show 2 * 0 + _ ≤ _; exact Nat.le_of_eq rfl) (hb hby own_d11_31) (fun _ _ => ⟨rfl, e8, (by decide : 0 + 0 ≤ _), (by decide : 0 + 0 ≤ _)⟩)
    dsimp only [Pt.U, Pt.locs, Pt.cells, Pt.slots] at X9 l9 y9 z9 st9 hQ9
    subst l9 y9 z9
    obtain ⟨rfl, N9q, e9⟩ := hQ9
    have N9 := Fr.app N0 N9q
    have pre10 : ∀ t, Steps p.tables e below (T9.setTop (mkF m 34 #[.val (.ref t1), .val (.ref t2), .val (.ref t2)] [(.int (if x1 = y1 then (1 : Int32) else (0 : Int32)))])) t → Steps p.tables e below (s₁.setTop (entryFrame m #[(.ref t1), (.ref t2)] 3)) t := fun t k => pre5 t (by
      refine XS.icmpNo X4.here hx rfl (hb hby own_d11_20) rfl (teq hc6).2 ?_
      show Steps p.tables e below (T4.setTop (mkF m 23 #[.val (.ref t1), .val (.ref t2), .val (.ref t2)] [])) _
      refine XS.aloadN X4.here hx rfl (hb hby own_d11_23) rfl rfl ?_
      show Steps p.tables e below (T4.setTop (mkF m 24 #[.val (.ref t1), .val (.ref t2), .val (.ref t2)] [(.ref t1)])) _
      refine st7 _ ?_
      show Steps p.tables e below (T7.setTop (mkF m 27 #[.val (.ref t1), .val (.ref t2), .val (.ref t2)] [(.ref s1)])) _
      refine XS.aloadN X7.here hx rfl (hb hby own_d11_27) rfl rfl ?_
      show Steps p.tables e below (T7.setTop (mkF m 28 #[.val (.ref t1), .val (.ref t2), .val (.ref t2)] [(.ref t2), (.ref s1)])) _
      refine st8 _ ?_
      show Steps p.tables e below (T8.setTop (mkF m 31 #[.val (.ref t1), .val (.ref t2), .val (.ref t2)] [(.ref s2), (.ref s1)])) _
      refine st9.trans ?_
      show Steps p.tables e below (T9.setTop (mkF m 34 #[.val (.ref t1), .val (.ref t2), .val (.ref t2)] [(.int (if x1 = y1 then (1 : Int32) else (0 : Int32)))])) _
      exact k)
    by_cases hc11 : x1 = y1
    · skip
      obtain ⟨fs, hr, hrun, hended, hW, hsame⟩ := X9.leave (v := some (.int (1 : Int32))) (fun h => by rw [Bd.returns] at h; cases h)
      refine ⟨_, _, pre10 _ ?_, hrun, hended, _, _, rfl, ?_, ⟨_, rfl⟩, hW, hsame.mono (by decide) (by decide)⟩
      · refine XS.ifNo X9.here hx rfl (hb hby own_d11_34) rfl ((if0 _ _).trans (feq (fun q => absurd ((if_pos hc11).symm.trans q) (by decide))).1) ?_
        show Steps p.tables e below (T9.setTop (mkF m 37 #[.val (.ref t1), .val (.ref t2), .val (.ref t2)] [])) _
        refine XS.iconst X9.here hx rfl (hb hby own_d11_37) ?_
        show Steps p.tables e below (T9.setTop (mkF m 38 #[.val (.ref t1), .val (.ref t2), .val (.ref t2)] [(.int (1 : Int32))])) _
        refine XS.goto X9.here hx rfl (pc0 := 38) (pc' := 42) rfl (hb hby own_d11_38) (by decide) (by decide) ?_
        show Steps p.tables e below (T9.setTop (mkF m 42 #[.val (.ref t1), .val (.ref t2), .val (.ref t2)] [(.int (1 : Int32))])) _
        exact retN X9 hx (t := .boolean) Bd.returns (by simp) (hb hby own_d11_42) hr
      · show own_Q_own_teq11 Z t1 t2 s1 s2 w1 w2 b1 b2 k1 k2 cz x1 y1 h0 n0 _ T9.heap _
        rw [e9]
        exact ⟨by simp [hc6, hc11], N9, rfl⟩
    · skip
      obtain ⟨fs, hr, hrun, hended, hW, hsame⟩ := X9.leave (v := some (.int (0 : Int32))) (fun h => by rw [Bd.returns] at h; cases h)
      refine ⟨_, _, pre10 _ ?_, hrun, hended, _, _, rfl, ?_, ⟨_, rfl⟩, hW, hsame.mono (by decide) (by decide)⟩
      · refine XS.ifYes X9.here hx rfl (pc0 := 34) (pc' := 41) rfl (hb hby own_d11_34) rfl ((if0 _ _).trans (teq (if_neg hc11)).1) (by decide) (by decide) ?_
        show Steps p.tables e below (T9.setTop (mkF m 41 #[.val (.ref t1), .val (.ref t2), .val (.ref t2)] [])) _
        refine XS.iconst X9.here hx rfl (hb hby own_d11_41) ?_
        show Steps p.tables e below (T9.setTop (mkF m 42 #[.val (.ref t1), .val (.ref t2), .val (.ref t2)] [(.int (0 : Int32))])) _
        exact retN X9 hx (t := .boolean) Bd.returns (by simp) (hb hby own_d11_42) hr
      · show own_Q_own_teq11 Z t1 t2 s1 s2 w1 w2 b1 b2 k1 k2 cz x1 y1 h0 n0 _ T9.heap _
        rw [e9]
        exact ⟨by simp [hc6, hc11], N9, rfl⟩
  · skip
    obtain ⟨fs, hr, hrun, hended, hW, hsame⟩ := X4.leave (v := some (.int (0 : Int32))) (fun h => by rw [Bd.returns] at h; cases h)
    refine ⟨_, _, pre5 _ ?_, hrun, hended, _, _, rfl, ?_, ⟨_, rfl⟩, hW, hsame.mono (by decide) (by decide)⟩
    · refine XS.icmpYes X4.here hx rfl (pc0 := 20) (pc' := 41) rfl (hb hby own_d11_20) rfl (feq hc6).2 (by decide) (by decide) ?_
      show Steps p.tables e below (T4.setTop (mkF m 41 #[.val (.ref t1), .val (.ref t2), .val (.ref t2)] [])) _
      refine XS.iconst X4.here hx rfl (hb hby own_d11_41) ?_
      show Steps p.tables e below (T4.setTop (mkF m 42 #[.val (.ref t1), .val (.ref t2), .val (.ref t2)] [(.int (0 : Int32))])) _
      exact retN X4 hx (t := .boolean) Bd.returns (by simp) (hb hby own_d11_42) hr
    · show own_Q_own_teq11 Z t1 t2 s1 s2 w1 w2 b1 b2 k1 k2 cz x1 y1 h0 n0 _ T4.heap _
      rw [e4]
      exact ⟨by simp [hc6], N0, rfl⟩
theorem own_d13_34 : decode jdk_43_method_13_code 34 = .ok (.iconst 0, 1) := by decide +kernel
theorem own_d13_35 : decode jdk_43_method_13_code 35 = .ok (.ireturn, 1) := by decide +kernel
def own_Q_own_leq12 (Z : State) (b1 : Addr) (b2 : Addr) (k1 : ClassId) (k2 : ClassId) (x1 : Int32) (y1 : Int32) (y2 : Int32) (h0 : Heap) (n0 : Nat) (v : Option Value) (h : Heap) (L : List Loc) : Prop := v = some (.int (0 : Int32)) ∧ Fr n0 L ∧ h = h0
set_option maxRecDepth 65536 in
set_option maxHeartbeats 40000000 in
theorem own_leq12 (l : Launch) (Z : State) (a0 : Array Value) (hw : ∀ d ∈ tables_1, d.before a0 Z = true) (ws : List Jvm.Cond) (b1 : Addr) (b2 : Addr) (k1 : ClassId) (k2 : ClassId) (x1 : Int32) (y1 : Int32) (y2 : Int32) (h0 : Heap) (n0 : Nat) (Z0 : n0 ≤ h0.size) (V1 : Arv Z h0 b1 k1 .byte (1 : Int32) [(.int x1)] (.int (0 : Int32))) (V2 : Arv Z h0 b2 k2 .byte (2 : Int32) [(.int y1), (.int y2)] (.int (0 : Int32))) :
    MetFree l (⟨"java/lang/StringLatin1", "equals", "([B[B)Z"⟩ : MethodName) (head1 (Jvm.Cond.code (⟨"java/lang/StringLatin1", "equals", "([B[B)Z"⟩ : MethodName) jdk_43_method_13_code 3 (some .boolean) :: ws) ({ frames := 0, cells := 0, slots := 0, locals := 0 } : Room)) (fun as_ U => as_ = #[(.ref b1), (.ref b2)] ∧ Z.Warmed39 U.vm ∧ U.heap = h0) (fun _ _ _ _ _ => True) (fun _ U o U' => ∃ v L, o = .returned v ∧ own_Q_own_leq12 Z b1 b2 k1 k2 x1 y1 y2 h0 n0 v U'.heap L ∧ FrameEnd U o U' L ({ frames := 0, cells := 0, slots := 0, locals := 0 } : Room).cells ({ frames := 0, cells := 0, slots := 0, locals := 0 } : Room).slots) := by
  refine MetFree.of_bodySF (plainFor_of_name own_pn5) hisR ?_
  intro p e s m args below meth c s₁ Bd hml0 hP hK
  obtain ⟨rfl, hZ, hh⟩ := hP
  have hx := Bd.exec
  have hby := Bd.bytes
  have hml : c.maxLocals = 3 := hml0
  have hown : s.vm.findClass "java/lang/StringLatin1" = some m.cls := findClass_of_methodNamed Bd.named
  have hnm := (name_of_methodNamed Bd.named Bd.method).1
  have X0 : Stand p l e ({ frames := 0, cells := 0, slots := 0, locals := 0 } : Room) s m #[(.ref b1), (.ref b2)] below meth c s₁ [] 0 0 := Stand.of_body Bd
  have e0 : s₁.heap = h0 := by rw [← hh, Bd.state]; rfl
  have N0 := Fr.nil n0
  have pre0 : ∀ t, Steps p.tables e below (s₁.setTop (mkF m 0 #[.val (.ref b1), .val (.ref b2), .unset] [])) t → Steps p.tables e below (s₁.setTop (entryFrame m #[(.ref b1), (.ref b2)] 3)) t := fun t k => castTop (own_ef13 m b1 b2) k
  obtain ⟨cl1, Ar1, q1, S1, M1, H1, G1⟩ := id V1
  obtain ⟨cl2, Ar2, q2, S2, M2, H2, G2⟩ := id V2
  obtain ⟨fs, hr, hrun, hended, hW, hsame⟩ := X0.leave (v := some (.int (0 : Int32))) (fun h => by rw [Bd.returns] at h; cases h)
  refine ⟨_, _, pre0 _ ?_, hrun, hended, _, _, rfl, ?_, ⟨_, rfl⟩, hW, hsame.mono (by decide) (by decide)⟩
  · show Steps p.tables e below (s₁.setTop (mkF m 0 #[.val (.ref b1), .val (.ref b2), .unset] [])) _
    refine XS.aloadN X0.here hx rfl (hb hby own_d13_0) rfl rfl ?_
    show Steps p.tables e below (s₁.setTop (mkF m 1 #[.val (.ref b1), .val (.ref b2), .unset] [(.ref b1)])) _
    refine X0.arraylength hx (by rw [e0]; exact Ar1.1) (State.isArrayOf_alike hZ.alike Ar1.2.1) (g := (mkF m 1 #[.val (.ref b1), .val (.ref b2), .unset] [(.ref b1)])) rfl rfl (hb hby own_d13_1) _ ?_
    rw [len_of S1 M1]
    show Steps p.tables e below (s₁.setTop (mkF m 2 #[.val (.ref b1), .val (.ref b2), .unset] [(.int (1 : Int32))])) _
    refine XS.aloadN X0.here hx rfl (hb hby own_d13_2) rfl rfl ?_
    show Steps p.tables e below (s₁.setTop (mkF m 3 #[.val (.ref b1), .val (.ref b2), .unset] [(.ref b2), (.int (1 : Int32))])) _
    refine X0.arraylength hx (by rw [e0]; exact Ar2.1) (State.isArrayOf_alike hZ.alike Ar2.2.1) (g := (mkF m 3 #[.val (.ref b1), .val (.ref b2), .unset] [(.ref b2), (.int (1 : Int32))])) rfl rfl (hb hby own_d13_3) _ ?_
    rw [len_of S2 M2]
    show Steps p.tables e below (s₁.setTop (mkF m 4 #[.val (.ref b1), .val (.ref b2), .unset] [(.int (2 : Int32)), (.int (1 : Int32))])) _
    refine XS.icmpYes X0.here hx rfl (pc0 := 4) (pc' := 34) rfl (hb hby own_d13_4) rfl (feq (by decide : ¬ ((1 : Int32) = (2 : Int32)))).2 (by decide) (by decide) ?_
    show Steps p.tables e below (s₁.setTop (mkF m 34 #[.val (.ref b1), .val (.ref b2), .unset] [])) _
    refine XS.iconst X0.here hx rfl (hb hby own_d13_34) ?_
    show Steps p.tables e below (s₁.setTop (mkF m 35 #[.val (.ref b1), .val (.ref b2), .unset] [(.int (0 : Int32))])) _
    exact retN X0 hx (t := .boolean) Bd.returns (by simp) (hb hby own_d13_35) hr
  · show own_Q_own_leq12 Z b1 b2 k1 k2 x1 y1 y2 h0 n0 _ s₁.heap _
    rw [e0]
    exact ⟨rfl, N0, rfl⟩
def own_Q_own_seq12 (Z : State) (s1 : Addr) (s2 : Addr) (b1 : Addr) (b2 : Addr) (k1 : ClassId) (k2 : ClassId) (cz : Int32) (x1 : Int32) (y1 : Int32) (y2 : Int32) (h0 : Heap) (n0 : Nat) (v : Option Value) (h : Heap) (L : List Loc) : Prop := v = some (.int (0 : Int32)) ∧ Fr n0 L ∧ h = h0
set_option maxRecDepth 65536 in
set_option maxHeartbeats 40000000 in
theorem own_seq12 (l : Launch) (Z : State) (a0 : Array Value) (hw : ∀ d ∈ tables_1, d.before a0 Z = true) (ws : List Jvm.Cond) (s1 : Addr) (s2 : Addr) (b1 : Addr) (b2 : Addr) (k1 : ClassId) (k2 : ClassId) (cz : Int32) (x1 : Int32) (y1 : Int32) (y2 : Int32) (h0 : Heap) (n0 : Nat) (Z0 : n0 ≤ h0.size) (E1 : Exa Z h0 s1 "java/lang/String") (Fc1 : Fld Z h0 s1 "java/lang/String" "coder" "B" (.int (0 : Int32))) (Fv1 : Fld Z h0 s1 "java/lang/String" "value" "[B" (.ref b1)) (V1 : Arv Z h0 b1 k1 .byte (1 : Int32) [(.int x1)] (.int (0 : Int32))) (E2 : Exa Z h0 s2 "java/lang/String") (Fc2 : Fld Z h0 s2 "java/lang/String" "coder" "B" (.int (0 : Int32))) (Fv2 : Fld Z h0 s2 "java/lang/String" "value" "[B" (.ref b2)) (V2 : Arv Z h0 b2 k2 .byte (2 : Int32) [(.int y1), (.int y2)] (.int (0 : Int32))) (ne1 : s1 ≠ s2) (S : Sta Z h0 "java/lang/String" "COMPACT_STRINGS" "Z" (.int cz)) (hcz : ¬ (cz = (0 : Int32))) :
    MetFree l (⟨"java/lang/String", "equals", "(Ljava/lang/Object;)Z"⟩ : MethodName) (head1 (Jvm.Cond.code (⟨"java/lang/String", "equals", "(Ljava/lang/Object;)Z"⟩ : MethodName) jdk_42_method_66_code 3 (some .boolean) :: ws) ({ frames := 1, cells := 0, slots := 0, locals := 14 } : Room)) (fun as_ U => as_ = #[(.ref s1), (.ref s2)] ∧ Z.Warmed39 U.vm ∧ U.heap = h0) (fun _ _ _ _ _ => True) (fun _ U o U' => ∃ v L, o = .returned v ∧ own_Q_own_seq12 Z s1 s2 b1 b2 k1 k2 cz x1 y1 y2 h0 n0 v U'.heap L ∧ FrameEnd U o U' L ({ frames := 1, cells := 0, slots := 0, locals := 14 } : Room).cells ({ frames := 1, cells := 0, slots := 0, locals := 14 } : Room).slots) := by
  refine MetFree.of_bodySF (plainFor_of_name own_pn1) hisR ?_
  intro p e s m args below meth c s₁ Bd hml0 hP hK
  obtain ⟨rfl, hZ, hh⟩ := hP
  have hx := Bd.exec
  have hby := Bd.bytes
  have hml : c.maxLocals = 3 := hml0
  have hown : s.vm.findClass "java/lang/String" = some m.cls := findClass_of_methodNamed Bd.named
  have hnm := (name_of_methodNamed Bd.named Bd.method).1
  have X0 : Stand p l e ({ frames := 1, cells := 0, slots := 0, locals := 14 } : Room) s m #[(.ref s1), (.ref s2)] below meth c s₁ [] 0 0 := Stand.of_body Bd
  have e0 : s₁.heap = h0 := by rw [← hh, Bd.state]; rfl
  have N0 := Fr.nil n0
  have pre0 : ∀ t, Steps p.tables e below (s₁.setTop (mkF m 0 #[.val (.ref s1), .val (.ref s2), .unset] [])) t → Steps p.tables e below (s₁.setTop (entryFrame m #[(.ref s1), (.ref s2)] 3)) t := fun t k => castTop (own_ef12 m s1 s2) k
  obtain ⟨T1, X1, e1, st1⟩ := instY X0 hx hZ hown (hw _ (List.mem_of_getElem? (i := 73) rfl)) e0 (Ins.self E2) (g := (mkF m 8 #[.val (.ref s1), .val (.ref s2), .unset] [(.ref s2)])) rfl rfl (hb hby own_d12_8)
  obtain ⟨T2, X2, e2, st2⟩ := castY X1 hx hZ hown (hw _ (List.mem_of_getElem? (i := 73) rfl)) e1 (Ins.self E2) (g := (mkF m 15 #[.val (.ref s1), .val (.ref s2), .unset] [(.ref s2)])) rfl rfl (hb hby own_d12_15)
  obtain ⟨T3, X3, e3, st3⟩ := getS2 X2 hx hZ hown (host := "") (Or.inl (hw _ (List.mem_of_getElem? (i := 15) rfl))) Via.refl e2 S (g := (mkF m 19 #[.val (.ref s1), .val (.ref s2), .val (.ref s2)] [])) rfl (hb hby own_d12_19)
  obtain ⟨T4, X4, e4, st4⟩ := getF X3 hx hZ hown (host := "") (Or.inl (hw _ (List.mem_of_getElem? (i := 27) rfl))) Via.refl e3 Fc1 (g := (mkF m 26 #[.val (.ref s1), .val (.ref s2), .val (.ref s2)] [(.ref s1)])) rfl rfl (hb hby own_d12_26)
  obtain ⟨T5, X5, e5, st5⟩ := getF X4 hx hZ hown (host := "") (Or.inl (hw _ (List.mem_of_getElem? (i := 27) rfl))) Via.refl e4 Fc2 (g := (mkF m 30 #[.val (.ref s1), .val (.ref s2), .val (.ref s2)] [(.ref s2), (.int (0 : Int32))])) rfl rfl (hb hby own_d12_30)
  obtain ⟨T6, X6, e6, st6⟩ := getF X5 hx hZ hown (host := "") (Or.inl (hw _ (List.mem_of_getElem? (i := 29) rfl))) Via.refl e5 Fv1 (g := (mkF m 37 #[.val (.ref s1), .val (.ref s2), .val (.ref s2)] [(.ref s1)])) rfl rfl (hb hby own_d12_37)
  obtain ⟨T7, X7, e7, st7⟩ := getF X6 hx hZ hown (host := "") (Or.inl (hw _ (List.mem_of_getElem? (i := 29) rfl))) Via.refl e6 Fv2 (g := (mkF m 41 #[.val (.ref s1), .val (.ref s2), .val (.ref s2)] [(.ref s2), (.ref b1)])) rfl rfl (hb hby own_d12_41)
  obtain ⟨_, _, ⟨T8, L8, k8, n8⟩, -, X8, ⟨Lc8, hQ8, l8, y8, z8⟩, st8⟩ := Jvm.LawKit.callS X7 hx (y := (⟨"java/lang/StringLatin1", "equals", "([B[B)Z"⟩ : MethodName)) hown (mvT hZ (hw _ (List.mem_of_getElem? (i := 74) rfl))) (mvT hZ (hw _ (List.mem_of_getElem? (i := 75) rfl))) (mvT hZ (hw _ (List.mem_of_getElem? (i := 76) rfl))) (mvT hZ (hw _ (List.mem_of_getElem? (i := 77) rfl))) (by decide) (backOf (W := 0) (own_leq12 l Z a0 hw [] b1 b2 k1 k2 x1 y1 y2 h0 n0 Z0 V1 V2) hZ (hw _ (List.mem_of_getElem? (i := 77) rfl)) (hw _ (List.mem_of_getElem? (i := 76) rfl)) (by decide) (by decide)) (g := (mkF m 44 #[.val (.ref s1), .val (.ref s2), .val (.ref s2)] [(.ref b2), (.ref b1)])) rfl (by rw [hml]; rfl) (argsL := [(.ref b1), (.ref b2)]) (rest := []) (lenOf own_pd7 rfl) rfl (by show 2 * 0 + _ ≤ _; exact Nat.le_of_eq rfl) (hb hby own_d12_44) (fun _ _ => ⟨rfl, e7, (by decide : 0 + 0 ≤ _), (by decide : 0 + 0 ≤ _)⟩)
  dsimp only [Pt.U, Pt.locs, Pt.cells, Pt.slots] at X8 l8 y8 z8 st8 hQ8
  subst l8 y8 z8
  obtain ⟨rfl, N8q, e8⟩ := hQ8
  have N8 := Fr.app N0 N8q
  obtain ⟨fs, hr, hrun, hended, hW, hsame⟩ := X8.leave (v := some (.int (0 : Int32))) (fun h => by rw [Bd.returns] at h; cases h)
  refine ⟨_, _, pre0 _ ?_, hrun, hended, _, _, rfl, ?_, ⟨_, rfl⟩, hW, hsame.mono (by decide) (by decide)⟩
  · show Steps p.tables e below (s₁.setTop (mkF m 0 #[.val (.ref s1), .val (.ref s2), .unset] [])) _
    refine XS.aloadN X0.here hx rfl (hb hby own_d12_0) rfl rfl ?_
    show Steps p.tables e below (s₁.setTop (mkF m 1 #[.val (.ref s1), .val (.ref s2), .unset] [(.ref s1)])) _
    refine XS.aloadN X0.here hx rfl (hb hby own_d12_1) rfl rfl ?_
    show Steps p.tables e below (s₁.setTop (mkF m 2 #[.val (.ref s1), .val (.ref s2), .unset] [(.ref s2), (.ref s1)])) _
    refine Jvm.RoadKit.acmp (g := (mkF m 2 #[.val (.ref s1), .val (.ref s2), .unset] [(.ref s2), (.ref s1)])) X0 hx rfl rfl rfl (pc0 := 2) (pc' := 7) (same := false) rfl (hb hby own_d12_2) rfl (decide_eq_false fun q => ne1 (Value.ref.inj q)) (by decide) (by decide) ?_
    show Steps p.tables e below (s₁.setTop (mkF m 7 #[.val (.ref s1), .val (.ref s2), .unset] [])) _
    refine XS.aloadN X0.here hx rfl (hb hby own_d12_7) rfl rfl ?_
    show Steps p.tables e below (s₁.setTop (mkF m 8 #[.val (.ref s1), .val (.ref s2), .unset] [(.ref s2)])) _
    refine st1 _ ?_
    show Steps p.tables e below (T1.setTop (mkF m 11 #[.val (.ref s1), .val (.ref s2), .unset] [(.int (1 : Int32))])) _
    refine XS.ifNo X1.here hx rfl (hb hby own_d12_11) rfl ((if0 _ _).trans (feq (by decide : ¬ ((1 : Int32) = (0 : Int32)))).1) ?_
    show Steps p.tables e below (T1.setTop (mkF m 14 #[.val (.ref s1), .val (.ref s2), .unset] [])) _
    refine XS.aloadN X1.here hx rfl (hb hby own_d12_14) rfl rfl ?_
    show Steps p.tables e below (T1.setTop (mkF m 15 #[.val (.ref s1), .val (.ref s2), .unset] [(.ref s2)])) _
    refine st2 _ ?_
    show Steps p.tables e below (T2.setTop (mkF m 18 #[.val (.ref s1), .val (.ref s2), .unset] [(.ref s2)])) _
    refine XS.astoreN X2.here hx rfl (hb hby own_d12_18) rfl rfl (l' := #[.val (.ref s1), .val (.ref s2), .val (.ref s2)]) rfl ?_
    show Steps p.tables e below (T2.setTop (mkF m 19 #[.val (.ref s1), .val (.ref s2), .val (.ref s2)] [])) _
    refine st3 _ ?_
    show Steps p.tables e below (T3.setTop (mkF m 22 #[.val (.ref s1), .val (.ref s2), .val (.ref s2)] [(.int cz)])) _
    refine XS.ifNo X3.here hx rfl (hb hby own_d12_22) rfl ((if0 _ _).trans (feq hcz).1) ?_
    show Steps p.tables e below (T3.setTop (mkF m 25 #[.val (.ref s1), .val (.ref s2), .val (.ref s2)] [])) _
    refine XS.aloadN X3.here hx rfl (hb hby own_d12_25) rfl rfl ?_
    show Steps p.tables e below (T3.setTop (mkF m 26 #[.val (.ref s1), .val (.ref s2), .val (.ref s2)] [(.ref s1)])) _
    refine st4 _ ?_
    show Steps p.tables e below (T4.setTop (mkF m 29 #[.val (.ref s1), .val (.ref s2), .val (.ref s2)] [(.int (0 : Int32))])) _
    refine XS.aloadN X4.here hx rfl (hb hby own_d12_29) rfl rfl ?_
    show Steps p.tables e below (T4.setTop (mkF m 30 #[.val (.ref s1), .val (.ref s2), .val (.ref s2)] [(.ref s2), (.int (0 : Int32))])) _
    refine st5 _ ?_
    show Steps p.tables e below (T5.setTop (mkF m 33 #[.val (.ref s1), .val (.ref s2), .val (.ref s2)] [(.int (0 : Int32)), (.int (0 : Int32))])) _
    refine XS.icmpNo X5.here hx rfl (hb hby own_d12_33) rfl (teq (by decide : (0 : Int32) = (0 : Int32))).2 ?_
    show Steps p.tables e below (T5.setTop (mkF m 36 #[.val (.ref s1), .val (.ref s2), .val (.ref s2)] [])) _
    refine XS.aloadN X5.here hx rfl (hb hby own_d12_36) rfl rfl ?_
    show Steps p.tables e below (T5.setTop (mkF m 37 #[.val (.ref s1), .val (.ref s2), .val (.ref s2)] [(.ref s1)])) _
    refine st6 _ ?_
    show Steps p.tables e below (T6.setTop (mkF m 40 #[.val (.ref s1), .val (.ref s2), .val (.ref s2)] [(.ref b1)])) _
    refine XS.aloadN X6.here hx rfl (hb hby own_d12_40) rfl rfl ?_
    show Steps p.tables e below (T6.setTop (mkF m 41 #[.val (.ref s1), .val (.ref s2), .val (.ref s2)] [(.ref s2), (.ref b1)])) _
    refine st7 _ ?_
    show Steps p.tables e below (T7.setTop (mkF m 44 #[.val (.ref s1), .val (.ref s2), .val (.ref s2)] [(.ref b2), (.ref b1)])) _
    refine st8 _ ?_
    show Steps p.tables e below (T8.setTop (mkF m 47 #[.val (.ref s1), .val (.ref s2), .val (.ref s2)] [(.int (0 : Int32))])) _
    refine XS.ifYes X8.here hx rfl (pc0 := 47) (pc' := 54) rfl (hb hby own_d12_47) rfl ((if0 _ _).trans (teq (by decide : (0 : Int32) = (0 : Int32))).1) (by decide) (by decide) ?_
    show Steps p.tables e below (T8.setTop (mkF m 54 #[.val (.ref s1), .val (.ref s2), .val (.ref s2)] [])) _
    refine XS.iconst X8.here hx rfl (hb hby own_d12_54) ?_
    show Steps p.tables e below (T8.setTop (mkF m 55 #[.val (.ref s1), .val (.ref s2), .val (.ref s2)] [(.int (0 : Int32))])) _
    exact retN X8 hx (t := .boolean) Bd.returns (by simp) (hb hby own_d12_55) hr
  · show own_Q_own_seq12 Z s1 s2 b1 b2 k1 k2 cz x1 y1 y2 h0 n0 _ T8.heap _
    rw [e8]
    exact ⟨rfl, N8, rfl⟩
def own_Q_own_teq12 (Z : State) (t1 : Addr) (t2 : Addr) (s1 : Addr) (s2 : Addr) (w1 : Int32) (w2 : Int32) (b1 : Addr) (b2 : Addr) (k1 : ClassId) (k2 : ClassId) (cz : Int32) (x1 : Int32) (y1 : Int32) (y2 : Int32) (h0 : Heap) (n0 : Nat) (v : Option Value) (h : Heap) (L : List Loc) : Prop := v = some (.int (0 : Int32)) ∧ Fr n0 L ∧ h = h0
set_option maxRecDepth 65536 in
set_option maxHeartbeats 40000000 in
theorem own_teq12 (l : Launch) (Z : State) (a0 : Array Value) (hw : ∀ d ∈ tables_1, d.before a0 Z = true) (ws : List Jvm.Cond) (t1 : Addr) (t2 : Addr) (s1 : Addr) (s2 : Addr) (w1 : Int32) (w2 : Int32) (b1 : Addr) (b2 : Addr) (k1 : ClassId) (k2 : ClassId) (cz : Int32) (x1 : Int32) (y1 : Int32) (y2 : Int32) (h0 : Heap) (n0 : Nat) (Z0 : n0 ≤ h0.size) (Et : Exa Z h0 t2 "com/example/vigilant_consumer/vigilantconsumer/TopicPartition") (Fat : Fld Z h0 t1 "com/example/vigilant_consumer/vigilantconsumer/TopicPartition" "topic" "Ljava/lang/String;" (.ref s1)) (Fap : Fld Z h0 t1 "com/example/vigilant_consumer/vigilantconsumer/TopicPartition" "partition" "I" (.int w1)) (Fbt : Fld Z h0 t2 "com/example/vigilant_consumer/vigilantconsumer/TopicPartition" "topic" "Ljava/lang/String;" (.ref s2)) (Fbp : Fld Z h0 t2 "com/example/vigilant_consumer/vigilantconsumer/TopicPartition" "partition" "I" (.int w2)) (E1 : Exa Z h0 s1 "java/lang/String") (Fc1 : Fld Z h0 s1 "java/lang/String" "coder" "B" (.int (0 : Int32))) (Fv1 : Fld Z h0 s1 "java/lang/String" "value" "[B" (.ref b1)) (V1 : Arv Z h0 b1 k1 .byte (1 : Int32) [(.int x1)] (.int (0 : Int32))) (E2 : Exa Z h0 s2 "java/lang/String") (Fc2 : Fld Z h0 s2 "java/lang/String" "coder" "B" (.int (0 : Int32))) (Fv2 : Fld Z h0 s2 "java/lang/String" "value" "[B" (.ref b2)) (V2 : Arv Z h0 b2 k2 .byte (2 : Int32) [(.int y1), (.int y2)] (.int (0 : Int32))) (ne1 : s1 ≠ s2) (S : Sta Z h0 "java/lang/String" "COMPACT_STRINGS" "Z" (.int cz)) (hcz : ¬ (cz = (0 : Int32))) :
    MetFree l (⟨"com/example/vigilant_consumer/vigilantconsumer/TopicPartition", "equals", "(Ljava/lang/Object;)Z"⟩ : MethodName) (head1 (Jvm.Cond.code (⟨"com/example/vigilant_consumer/vigilantconsumer/TopicPartition", "equals", "(Ljava/lang/Object;)Z"⟩ : MethodName) prog_59_method_2_code 3 (some .boolean) :: ws) ({ frames := 2, cells := 0, slots := 0, locals := 28 } : Room)) (fun as_ U => as_ = #[(.ref t1), (.ref t2)] ∧ Z.Warmed39 U.vm ∧ U.heap = h0) (fun _ _ _ _ _ => True) (fun _ U o U' => ∃ v L, o = .returned v ∧ own_Q_own_teq12 Z t1 t2 s1 s2 w1 w2 b1 b2 k1 k2 cz x1 y1 y2 h0 n0 v U'.heap L ∧ FrameEnd U o U' L ({ frames := 2, cells := 0, slots := 0, locals := 28 } : Room).cells ({ frames := 2, cells := 0, slots := 0, locals := 28 } : Room).slots) := by
  refine MetFree.of_bodySF (plainFor_of_name own_pn4) hisR ?_
  intro p e s m args below meth c s₁ Bd hml0 hP hK
  obtain ⟨rfl, hZ, hh⟩ := hP
  have hx := Bd.exec
  have hby := Bd.bytes
  have hml : c.maxLocals = 3 := hml0
  have hown : s.vm.findClass "com/example/vigilant_consumer/vigilantconsumer/TopicPartition" = some m.cls := findClass_of_methodNamed Bd.named
  have hnm := (name_of_methodNamed Bd.named Bd.method).1
  have X0 : Stand p l e ({ frames := 2, cells := 0, slots := 0, locals := 28 } : Room) s m #[(.ref t1), (.ref t2)] below meth c s₁ [] 0 0 := Stand.of_body Bd
  have e0 : s₁.heap = h0 := by rw [← hh, Bd.state]; rfl
  have N0 := Fr.nil n0
  have pre0 : ∀ t, Steps p.tables e below (s₁.setTop (mkF m 0 #[.val (.ref t1), .val (.ref t2), .unset] [])) t → Steps p.tables e below (s₁.setTop (entryFrame m #[(.ref t1), (.ref t2)] 3)) t := fun t k => castTop (own_ef11 m t1 t2) k
  obtain ⟨T1, X1, e1, st1⟩ := instY X0 hx hZ hown (hw _ (List.mem_of_getElem? (i := 64) rfl)) e0 (Ins.self Et) (g := (mkF m 1 #[.val (.ref t1), .val (.ref t2), .unset] [(.ref t2)])) rfl rfl (hb hby own_d11_1)
  obtain ⟨T2, X2, e2, st2⟩ := castY X1 hx hZ hown (hw _ (List.mem_of_getElem? (i := 64) rfl)) e1 (Ins.self Et) (g := (mkF m 8 #[.val (.ref t1), .val (.ref t2), .unset] [(.ref t2)])) rfl rfl (hb hby own_d11_8)
  obtain ⟨T3, X3, e3, st3⟩ := getF X2 hx hZ hown (host := "") (Or.inl (hw _ (List.mem_of_getElem? (i := 57) rfl))) Via.refl e2 Fap (g := (mkF m 13 #[.val (.ref t1), .val (.ref t2), .val (.ref t2)] [(.ref t1)])) rfl rfl (hb hby own_d11_13)
  obtain ⟨T4, X4, e4, st4⟩ := getF X3 hx hZ hown (host := "") (Or.inl (hw _ (List.mem_of_getElem? (i := 57) rfl))) Via.refl e3 Fbp (g := (mkF m 17 #[.val (.ref t1), .val (.ref t2), .val (.ref t2)] [(.ref t2), (.int w1)])) rfl rfl (hb hby own_d11_17)
  have pre5 : ∀ t, Steps p.tables e below (T4.setTop (mkF m 20 #[.val (.ref t1), .val (.ref t2), .val (.ref t2)] [(.int w2), (.int w1)])) t → Steps p.tables e below (s₁.setTop (entryFrame m #[(.ref t1), (.ref t2)] 3)) t := fun t k => pre0 t (by
    show Steps p.tables e below (s₁.setTop (mkF m 0 #[.val (.ref t1), .val (.ref t2), .unset] [])) _
    refine XS.aloadN X0.here hx rfl (hb hby own_d11_0) rfl rfl ?_
    show Steps p.tables e below (s₁.setTop (mkF m 1 #[.val (.ref t1), .val (.ref t2), .unset] [(.ref t2)])) _
    refine st1 _ ?_
    show Steps p.tables e below (T1.setTop (mkF m 4 #[.val (.ref t1), .val (.ref t2), .unset] [(.int (1 : Int32))])) _
    refine XS.ifNo X1.here hx rfl (hb hby own_d11_4) rfl ((if0 _ _).trans (feq (by decide : ¬ ((1 : Int32) = (0 : Int32)))).1) ?_
    show Steps p.tables e below (T1.setTop (mkF m 7 #[.val (.ref t1), .val (.ref t2), .unset] [])) _
    refine XS.aloadN X1.here hx rfl (hb hby own_d11_7) rfl rfl ?_
    show Steps p.tables e below (T1.setTop (mkF m 8 #[.val (.ref t1), .val (.ref t2), .unset] [(.ref t2)])) _
    refine st2 _ ?_
    show Steps p.tables e below (T2.setTop (mkF m 11 #[.val (.ref t1), .val (.ref t2), .unset] [(.ref t2)])) _
    refine XS.astoreN X2.here hx rfl (hb hby own_d11_11) rfl rfl (l' := #[.val (.ref t1), .val (.ref t2), .val (.ref t2)]) rfl ?_
    show Steps p.tables e below (T2.setTop (mkF m 12 #[.val (.ref t1), .val (.ref t2), .val (.ref t2)] [])) _
    refine XS.aloadN X2.here hx rfl (hb hby own_d11_12) rfl rfl ?_
    show Steps p.tables e below (T2.setTop (mkF m 13 #[.val (.ref t1), .val (.ref t2), .val (.ref t2)] [(.ref t1)])) _
    refine st3 _ ?_
    show Steps p.tables e below (T3.setTop (mkF m 16 #[.val (.ref t1), .val (.ref t2), .val (.ref t2)] [(.int w1)])) _
    refine XS.aloadN X3.here hx rfl (hb hby own_d11_16) rfl rfl ?_
    show Steps p.tables e below (T3.setTop (mkF m 17 #[.val (.ref t1), .val (.ref t2), .val (.ref t2)] [(.ref t2), (.int w1)])) _
    refine st4 _ ?_
    show Steps p.tables e below (T4.setTop (mkF m 20 #[.val (.ref t1), .val (.ref t2), .val (.ref t2)] [(.int w2), (.int w1)])) _
    exact k)
  by_cases hc6 : w1 = w2
  · skip
    obtain ⟨T7, X7, e7, st7⟩ := getF X4 hx hZ hown (host := "") (Or.inl (hw _ (List.mem_of_getElem? (i := 55) rfl))) Via.refl e4 Fat (g := (mkF m 24 #[.val (.ref t1), .val (.ref t2), .val (.ref t2)] [(.ref t1)])) rfl rfl (hb hby own_d11_24)
    obtain ⟨T8, X8, e8, st8⟩ := getF X7 hx hZ hown (host := "") (Or.inl (hw _ (List.mem_of_getElem? (i := 55) rfl))) Via.refl e7 Fbt (g := (mkF m 28 #[.val (.ref t1), .val (.ref t2), .val (.ref t2)] [(.ref t2), (.ref s1)])) rfl rfl (hb hby own_d11_28)
    obtain ⟨cq9, kq9, q9a, q9b, q9c⟩ := isOf hZ e8 E1
    obtain ⟨_, _, ⟨T9, L9, k9, n9⟩, -, X9, ⟨Lc9, hQ9, l9, y9, z9⟩, st9⟩ := X8.virtualBack hx (y := (⟨"java/lang/String", "equals", "(Ljava/lang/Object;)Z"⟩ : MethodName)) (z := (⟨"java/lang/String", "equals", "(Ljava/lang/Object;)Z"⟩ : MethodName)) hown (mvT hZ (hw _ (List.mem_of_getElem? (i := 68) rfl))) (mvT hZ (hw _ (List.mem_of_getElem? (i := 69) rfl))) (notFace_of_selects (args := #[]) (mvT hZ (hw _ (List.mem_of_getElem? (i := 71) rfl)))) (mvT hZ (hw _ (List.mem_of_getElem? (i := 71) rfl))) (mvT hZ (hw _ (List.mem_of_getElem? (i := 70) rfl))) (by decide) (backOf (W := 0) (own_seq12 l Z a0 hw [] s1 s2 b1 b2 k1 k2 cz x1 y1 y2 h0 n0 Z0 E1 Fc1 Fv1 V1 E2 Fc2 Fv2 V2 ne1 S hcz) hZ (hw _ (List.mem_of_getElem? (i := 72) rfl)) (hw _ (List.mem_of_getElem? (i := 3) rfl)) (by decide) (by decide)) q9a q9c (g := (mkF m 31 #[.val (.ref t1), .val (.ref t2), .val (.ref t2)] [(.ref s2), (.ref s1)])) rfl (by rw [hml]; rfl) (Steps.refl _) (argsL := [(.ref s2)]) (rest := []) (lenOf own_pd8 rfl) rfl (by show 2 * 0 + _ ≤ _; exact Nat.le_of_eq rfl) (hb hby own_d11_31) (fun _ _ => ⟨rfl, e8, (by decide : 0 + 0 ≤ _), (by decide : 0 + 0 ≤ _)⟩)
    dsimp only [Pt.U, Pt.locs, Pt.cells, Pt.slots] at X9 l9 y9 z9 st9 hQ9
    subst l9 y9 z9
    obtain ⟨rfl, N9q, e9⟩ := hQ9
    have N9 := Fr.app N0 N9q
    obtain ⟨fs, hr, hrun, hended, hW, hsame⟩ := X9.leave (v := some (.int (0 : Int32))) (fun h => by rw [Bd.returns] at h; cases h)
    refine ⟨_, _, pre5 _ ?_, hrun, hended, _, _, rfl, ?_, ⟨_, rfl⟩, hW, hsame.mono (by decide) (by decide)⟩
    · refine XS.icmpNo X4.here hx rfl (hb hby own_d11_20) rfl (teq hc6).2 ?_
      show Steps p.tables e below (T4.setTop (mkF m 23 #[.val (.ref t1), .val (.ref t2), .val (.ref t2)] [])) _
      refine XS.aloadN X4.here hx rfl (hb hby own_d11_23) rfl rfl ?_
      show Steps p.tables e below (T4.setTop (mkF m 24 #[.val (.ref t1), .val (.ref t2), .val (.ref t2)] [(.ref t1)])) _
      refine st7 _ ?_
      show Steps p.tables e below (T7.setTop (mkF m 27 #[.val (.ref t1), .val (.ref t2), .val (.ref t2)] [(.ref s1)])) _
      refine XS.aloadN X7.here hx rfl (hb hby own_d11_27) rfl rfl ?_
      show Steps p.tables e below (T7.setTop (mkF m 28 #[.val (.ref t1), .val (.ref t2), .val (.ref t2)] [(.ref t2), (.ref s1)])) _
      refine st8 _ ?_
      show Steps p.tables e below (T8.setTop (mkF m 31 #[.val (.ref t1), .val (.ref t2), .val (.ref t2)] [(.ref s2), (.ref s1)])) _
      refine st9.trans ?_
      show Steps p.tables e below (T9.setTop (mkF m 34 #[.val (.ref t1), .val (.ref t2), .val (.ref t2)] [(.int (0 : Int32))])) _
      refine XS.ifYes X9.here hx rfl (pc0 := 34) (pc' := 41) rfl (hb hby own_d11_34) rfl ((if0 _ _).trans (teq (by decide : (0 : Int32) = (0 : Int32))).1) (by decide) (by decide) ?_
      show Steps p.tables e below (T9.setTop (mkF m 41 #[.val (.ref t1), .val (.ref t2), .val (.ref t2)] [])) _
      refine XS.iconst X9.here hx rfl (hb hby own_d11_41) ?_
      show Steps p.tables e below (T9.setTop (mkF m 42 #[.val (.ref t1), .val (.ref t2), .val (.ref t2)] [(.int (0 : Int32))])) _
      exact retN X9 hx (t := .boolean) Bd.returns (by simp) (hb hby own_d11_42) hr
    · show own_Q_own_teq12 Z t1 t2 s1 s2 w1 w2 b1 b2 k1 k2 cz x1 y1 y2 h0 n0 _ T9.heap _
      rw [e9]
      exact ⟨by simp [hc6], N9, rfl⟩
  · skip
    obtain ⟨fs, hr, hrun, hended, hW, hsame⟩ := X4.leave (v := some (.int (0 : Int32))) (fun h => by rw [Bd.returns] at h; cases h)
    refine ⟨_, _, pre5 _ ?_, hrun, hended, _, _, rfl, ?_, ⟨_, rfl⟩, hW, hsame.mono (by decide) (by decide)⟩
    · refine XS.icmpYes X4.here hx rfl (pc0 := 20) (pc' := 41) rfl (hb hby own_d11_20) rfl (feq hc6).2 (by decide) (by decide) ?_
      show Steps p.tables e below (T4.setTop (mkF m 41 #[.val (.ref t1), .val (.ref t2), .val (.ref t2)] [])) _
      refine XS.iconst X4.here hx rfl (hb hby own_d11_41) ?_
      show Steps p.tables e below (T4.setTop (mkF m 42 #[.val (.ref t1), .val (.ref t2), .val (.ref t2)] [(.int (0 : Int32))])) _
      exact retN X4 hx (t := .boolean) Bd.returns (by simp) (hb hby own_d11_42) hr
    · show own_Q_own_teq12 Z t1 t2 s1 s2 w1 w2 b1 b2 k1 k2 cz x1 y1 y2 h0 n0 _ T4.heap _
      rw [e4]
      exact ⟨by simp [hc6], N0, rfl⟩
def own_Q_own_leq21 (Z : State) (b1 : Addr) (b2 : Addr) (k1 : ClassId) (k2 : ClassId) (x1 : Int32) (x2 : Int32) (y1 : Int32) (h0 : Heap) (n0 : Nat) (v : Option Value) (h : Heap) (L : List Loc) : Prop := v = some (.int (0 : Int32)) ∧ Fr n0 L ∧ h = h0
set_option maxRecDepth 65536 in
set_option maxHeartbeats 40000000 in
theorem own_leq21 (l : Launch) (Z : State) (a0 : Array Value) (hw : ∀ d ∈ tables_1, d.before a0 Z = true) (ws : List Jvm.Cond) (b1 : Addr) (b2 : Addr) (k1 : ClassId) (k2 : ClassId) (x1 : Int32) (x2 : Int32) (y1 : Int32) (h0 : Heap) (n0 : Nat) (Z0 : n0 ≤ h0.size) (V1 : Arv Z h0 b1 k1 .byte (2 : Int32) [(.int x1), (.int x2)] (.int (0 : Int32))) (V2 : Arv Z h0 b2 k2 .byte (1 : Int32) [(.int y1)] (.int (0 : Int32))) :
    MetFree l (⟨"java/lang/StringLatin1", "equals", "([B[B)Z"⟩ : MethodName) (head1 (Jvm.Cond.code (⟨"java/lang/StringLatin1", "equals", "([B[B)Z"⟩ : MethodName) jdk_43_method_13_code 3 (some .boolean) :: ws) ({ frames := 0, cells := 0, slots := 0, locals := 0 } : Room)) (fun as_ U => as_ = #[(.ref b1), (.ref b2)] ∧ Z.Warmed39 U.vm ∧ U.heap = h0) (fun _ _ _ _ _ => True) (fun _ U o U' => ∃ v L, o = .returned v ∧ own_Q_own_leq21 Z b1 b2 k1 k2 x1 x2 y1 h0 n0 v U'.heap L ∧ FrameEnd U o U' L ({ frames := 0, cells := 0, slots := 0, locals := 0 } : Room).cells ({ frames := 0, cells := 0, slots := 0, locals := 0 } : Room).slots) := by
  refine MetFree.of_bodySF (plainFor_of_name own_pn5) hisR ?_
  intro p e s m args below meth c s₁ Bd hml0 hP hK
  obtain ⟨rfl, hZ, hh⟩ := hP
  have hx := Bd.exec
  have hby := Bd.bytes
  have hml : c.maxLocals = 3 := hml0
  have hown : s.vm.findClass "java/lang/StringLatin1" = some m.cls := findClass_of_methodNamed Bd.named
  have hnm := (name_of_methodNamed Bd.named Bd.method).1
  have X0 : Stand p l e ({ frames := 0, cells := 0, slots := 0, locals := 0 } : Room) s m #[(.ref b1), (.ref b2)] below meth c s₁ [] 0 0 := Stand.of_body Bd
  have e0 : s₁.heap = h0 := by rw [← hh, Bd.state]; rfl
  have N0 := Fr.nil n0
  have pre0 : ∀ t, Steps p.tables e below (s₁.setTop (mkF m 0 #[.val (.ref b1), .val (.ref b2), .unset] [])) t → Steps p.tables e below (s₁.setTop (entryFrame m #[(.ref b1), (.ref b2)] 3)) t := fun t k => castTop (own_ef13 m b1 b2) k
  obtain ⟨cl1, Ar1, q1, S1, M1, H1, G1⟩ := id V1
  obtain ⟨cl2, Ar2, q2, S2, M2, H2, G2⟩ := id V2
  obtain ⟨fs, hr, hrun, hended, hW, hsame⟩ := X0.leave (v := some (.int (0 : Int32))) (fun h => by rw [Bd.returns] at h; cases h)
  refine ⟨_, _, pre0 _ ?_, hrun, hended, _, _, rfl, ?_, ⟨_, rfl⟩, hW, hsame.mono (by decide) (by decide)⟩
  · show Steps p.tables e below (s₁.setTop (mkF m 0 #[.val (.ref b1), .val (.ref b2), .unset] [])) _
    refine XS.aloadN X0.here hx rfl (hb hby own_d13_0) rfl rfl ?_
    show Steps p.tables e below (s₁.setTop (mkF m 1 #[.val (.ref b1), .val (.ref b2), .unset] [(.ref b1)])) _
    refine X0.arraylength hx (by rw [e0]; exact Ar1.1) (State.isArrayOf_alike hZ.alike Ar1.2.1) (g := (mkF m 1 #[.val (.ref b1), .val (.ref b2), .unset] [(.ref b1)])) rfl rfl (hb hby own_d13_1) _ ?_
    rw [len_of S1 M1]
    show Steps p.tables e below (s₁.setTop (mkF m 2 #[.val (.ref b1), .val (.ref b2), .unset] [(.int (2 : Int32))])) _
    refine XS.aloadN X0.here hx rfl (hb hby own_d13_2) rfl rfl ?_
    show Steps p.tables e below (s₁.setTop (mkF m 3 #[.val (.ref b1), .val (.ref b2), .unset] [(.ref b2), (.int (2 : Int32))])) _
    refine X0.arraylength hx (by rw [e0]; exact Ar2.1) (State.isArrayOf_alike hZ.alike Ar2.2.1) (g := (mkF m 3 #[.val (.ref b1), .val (.ref b2), .unset] [(.ref b2), (.int (2 : Int32))])) rfl rfl (hb hby own_d13_3) _ ?_
    rw [len_of S2 M2]
    show Steps p.tables e below (s₁.setTop (mkF m 4 #[.val (.ref b1), .val (.ref b2), .unset] [(.int (1 : Int32)), (.int (2 : Int32))])) _
    refine XS.icmpYes X0.here hx rfl (pc0 := 4) (pc' := 34) rfl (hb hby own_d13_4) rfl (feq (by decide : ¬ ((2 : Int32) = (1 : Int32)))).2 (by decide) (by decide) ?_
    show Steps p.tables e below (s₁.setTop (mkF m 34 #[.val (.ref b1), .val (.ref b2), .unset] [])) _
    refine XS.iconst X0.here hx rfl (hb hby own_d13_34) ?_
    show Steps p.tables e below (s₁.setTop (mkF m 35 #[.val (.ref b1), .val (.ref b2), .unset] [(.int (0 : Int32))])) _
    exact retN X0 hx (t := .boolean) Bd.returns (by simp) (hb hby own_d13_35) hr
  · show own_Q_own_leq21 Z b1 b2 k1 k2 x1 x2 y1 h0 n0 _ s₁.heap _
    rw [e0]
    exact ⟨rfl, N0, rfl⟩
def own_Q_own_seq21 (Z : State) (s1 : Addr) (s2 : Addr) (b1 : Addr) (b2 : Addr) (k1 : ClassId) (k2 : ClassId) (cz : Int32) (x1 : Int32) (x2 : Int32) (y1 : Int32) (h0 : Heap) (n0 : Nat) (v : Option Value) (h : Heap) (L : List Loc) : Prop := v = some (.int (0 : Int32)) ∧ Fr n0 L ∧ h = h0
set_option maxRecDepth 65536 in
set_option maxHeartbeats 40000000 in
theorem own_seq21 (l : Launch) (Z : State) (a0 : Array Value) (hw : ∀ d ∈ tables_1, d.before a0 Z = true) (ws : List Jvm.Cond) (s1 : Addr) (s2 : Addr) (b1 : Addr) (b2 : Addr) (k1 : ClassId) (k2 : ClassId) (cz : Int32) (x1 : Int32) (x2 : Int32) (y1 : Int32) (h0 : Heap) (n0 : Nat) (Z0 : n0 ≤ h0.size) (E1 : Exa Z h0 s1 "java/lang/String") (Fc1 : Fld Z h0 s1 "java/lang/String" "coder" "B" (.int (0 : Int32))) (Fv1 : Fld Z h0 s1 "java/lang/String" "value" "[B" (.ref b1)) (V1 : Arv Z h0 b1 k1 .byte (2 : Int32) [(.int x1), (.int x2)] (.int (0 : Int32))) (E2 : Exa Z h0 s2 "java/lang/String") (Fc2 : Fld Z h0 s2 "java/lang/String" "coder" "B" (.int (0 : Int32))) (Fv2 : Fld Z h0 s2 "java/lang/String" "value" "[B" (.ref b2)) (V2 : Arv Z h0 b2 k2 .byte (1 : Int32) [(.int y1)] (.int (0 : Int32))) (ne1 : s1 ≠ s2) (S : Sta Z h0 "java/lang/String" "COMPACT_STRINGS" "Z" (.int cz)) (hcz : ¬ (cz = (0 : Int32))) :
    MetFree l (⟨"java/lang/String", "equals", "(Ljava/lang/Object;)Z"⟩ : MethodName) (head1 (Jvm.Cond.code (⟨"java/lang/String", "equals", "(Ljava/lang/Object;)Z"⟩ : MethodName) jdk_42_method_66_code 3 (some .boolean) :: ws) ({ frames := 1, cells := 0, slots := 0, locals := 14 } : Room)) (fun as_ U => as_ = #[(.ref s1), (.ref s2)] ∧ Z.Warmed39 U.vm ∧ U.heap = h0) (fun _ _ _ _ _ => True) (fun _ U o U' => ∃ v L, o = .returned v ∧ own_Q_own_seq21 Z s1 s2 b1 b2 k1 k2 cz x1 x2 y1 h0 n0 v U'.heap L ∧ FrameEnd U o U' L ({ frames := 1, cells := 0, slots := 0, locals := 14 } : Room).cells ({ frames := 1, cells := 0, slots := 0, locals := 14 } : Room).slots) := by
  refine MetFree.of_bodySF (plainFor_of_name own_pn1) hisR ?_
  intro p e s m args below meth c s₁ Bd hml0 hP hK
  obtain ⟨rfl, hZ, hh⟩ := hP
  have hx := Bd.exec
  have hby := Bd.bytes
  have hml : c.maxLocals = 3 := hml0
  have hown : s.vm.findClass "java/lang/String" = some m.cls := findClass_of_methodNamed Bd.named
  have hnm := (name_of_methodNamed Bd.named Bd.method).1
  have X0 : Stand p l e ({ frames := 1, cells := 0, slots := 0, locals := 14 } : Room) s m #[(.ref s1), (.ref s2)] below meth c s₁ [] 0 0 := Stand.of_body Bd
  have e0 : s₁.heap = h0 := by rw [← hh, Bd.state]; rfl
  have N0 := Fr.nil n0
  have pre0 : ∀ t, Steps p.tables e below (s₁.setTop (mkF m 0 #[.val (.ref s1), .val (.ref s2), .unset] [])) t → Steps p.tables e below (s₁.setTop (entryFrame m #[(.ref s1), (.ref s2)] 3)) t := fun t k => castTop (own_ef12 m s1 s2) k
  obtain ⟨T1, X1, e1, st1⟩ := instY X0 hx hZ hown (hw _ (List.mem_of_getElem? (i := 73) rfl)) e0 (Ins.self E2) (g := (mkF m 8 #[.val (.ref s1), .val (.ref s2), .unset] [(.ref s2)])) rfl rfl (hb hby own_d12_8)
  obtain ⟨T2, X2, e2, st2⟩ := castY X1 hx hZ hown (hw _ (List.mem_of_getElem? (i := 73) rfl)) e1 (Ins.self E2) (g := (mkF m 15 #[.val (.ref s1), .val (.ref s2), .unset] [(.ref s2)])) rfl rfl (hb hby own_d12_15)
  obtain ⟨T3, X3, e3, st3⟩ := getS2 X2 hx hZ hown (host := "") (Or.inl (hw _ (List.mem_of_getElem? (i := 15) rfl))) Via.refl e2 S (g := (mkF m 19 #[.val (.ref s1), .val (.ref s2), .val (.ref s2)] [])) rfl (hb hby own_d12_19)
  obtain ⟨T4, X4, e4, st4⟩ := getF X3 hx hZ hown (host := "") (Or.inl (hw _ (List.mem_of_getElem? (i := 27) rfl))) Via.refl e3 Fc1 (g := (mkF m 26 #[.val (.ref s1), .val (.ref s2), .val (.ref s2)] [(.ref s1)])) rfl rfl (hb hby own_d12_26)
  obtain ⟨T5, X5, e5, st5⟩ := getF X4 hx hZ hown (host := "") (Or.inl (hw _ (List.mem_of_getElem? (i := 27) rfl))) Via.refl e4 Fc2 (g := (mkF m 30 #[.val (.ref s1), .val (.ref s2), .val (.ref s2)] [(.ref s2), (.int (0 : Int32))])) rfl rfl (hb hby own_d12_30)
  obtain ⟨T6, X6, e6, st6⟩ := getF X5 hx hZ hown (host := "") (Or.inl (hw _ (List.mem_of_getElem? (i := 29) rfl))) Via.refl e5 Fv1 (g := (mkF m 37 #[.val (.ref s1), .val (.ref s2), .val (.ref s2)] [(.ref s1)])) rfl rfl (hb hby own_d12_37)
  obtain ⟨T7, X7, e7, st7⟩ := getF X6 hx hZ hown (host := "") (Or.inl (hw _ (List.mem_of_getElem? (i := 29) rfl))) Via.refl e6 Fv2 (g := (mkF m 41 #[.val (.ref s1), .val (.ref s2), .val (.ref s2)] [(.ref s2), (.ref b1)])) rfl rfl (hb hby own_d12_41)
  obtain ⟨_, _, ⟨T8, L8, k8, n8⟩, -, X8, ⟨Lc8, hQ8, l8, y8, z8⟩, st8⟩ := Jvm.LawKit.callS X7 hx (y := (⟨"java/lang/StringLatin1", "equals", "([B[B)Z"⟩ : MethodName)) hown (mvT hZ (hw _ (List.mem_of_getElem? (i := 74) rfl))) (mvT hZ (hw _ (List.mem_of_getElem? (i := 75) rfl))) (mvT hZ (hw _ (List.mem_of_getElem? (i := 76) rfl))) (mvT hZ (hw _ (List.mem_of_getElem? (i := 77) rfl))) (by decide) (backOf (W := 0) (own_leq21 l Z a0 hw [] b1 b2 k1 k2 x1 x2 y1 h0 n0 Z0 V1 V2) hZ (hw _ (List.mem_of_getElem? (i := 77) rfl)) (hw _ (List.mem_of_getElem? (i := 76) rfl)) (by decide) (by decide)) (g := (mkF m 44 #[.val (.ref s1), .val (.ref s2), .val (.ref s2)] [(.ref b2), (.ref b1)])) rfl (by rw [hml]; rfl) (argsL := [(.ref b1), (.ref b2)]) (rest := []) (lenOf own_pd7 rfl) rfl (by show 2 * 0 + _ ≤ _; exact Nat.le_of_eq rfl) (hb hby own_d12_44) (fun _ _ => ⟨rfl, e7, (by decide : 0 + 0 ≤ _), (by decide : 0 + 0 ≤ _)⟩)
  dsimp only [Pt.U, Pt.locs, Pt.cells, Pt.slots] at X8 l8 y8 z8 st8 hQ8
  subst l8 y8 z8
  obtain ⟨rfl, N8q, e8⟩ := hQ8
  have N8 := Fr.app N0 N8q
  obtain ⟨fs, hr, hrun, hended, hW, hsame⟩ := X8.leave (v := some (.int (0 : Int32))) (fun h => by rw [Bd.returns] at h; cases h)
  refine ⟨_, _, pre0 _ ?_, hrun, hended, _, _, rfl, ?_, ⟨_, rfl⟩, hW, hsame.mono (by decide) (by decide)⟩
  · show Steps p.tables e below (s₁.setTop (mkF m 0 #[.val (.ref s1), .val (.ref s2), .unset] [])) _
    refine XS.aloadN X0.here hx rfl (hb hby own_d12_0) rfl rfl ?_
    show Steps p.tables e below (s₁.setTop (mkF m 1 #[.val (.ref s1), .val (.ref s2), .unset] [(.ref s1)])) _
    refine XS.aloadN X0.here hx rfl (hb hby own_d12_1) rfl rfl ?_
    show Steps p.tables e below (s₁.setTop (mkF m 2 #[.val (.ref s1), .val (.ref s2), .unset] [(.ref s2), (.ref s1)])) _
    refine Jvm.RoadKit.acmp (g := (mkF m 2 #[.val (.ref s1), .val (.ref s2), .unset] [(.ref s2), (.ref s1)])) X0 hx rfl rfl rfl (pc0 := 2) (pc' := 7) (same := false) rfl (hb hby own_d12_2) rfl (decide_eq_false fun q => ne1 (Value.ref.inj q)) (by decide) (by decide) ?_
    show Steps p.tables e below (s₁.setTop (mkF m 7 #[.val (.ref s1), .val (.ref s2), .unset] [])) _
    refine XS.aloadN X0.here hx rfl (hb hby own_d12_7) rfl rfl ?_
    show Steps p.tables e below (s₁.setTop (mkF m 8 #[.val (.ref s1), .val (.ref s2), .unset] [(.ref s2)])) _
    refine st1 _ ?_
    show Steps p.tables e below (T1.setTop (mkF m 11 #[.val (.ref s1), .val (.ref s2), .unset] [(.int (1 : Int32))])) _
    refine XS.ifNo X1.here hx rfl (hb hby own_d12_11) rfl ((if0 _ _).trans (feq (by decide : ¬ ((1 : Int32) = (0 : Int32)))).1) ?_
    show Steps p.tables e below (T1.setTop (mkF m 14 #[.val (.ref s1), .val (.ref s2), .unset] [])) _
    refine XS.aloadN X1.here hx rfl (hb hby own_d12_14) rfl rfl ?_
    show Steps p.tables e below (T1.setTop (mkF m 15 #[.val (.ref s1), .val (.ref s2), .unset] [(.ref s2)])) _
    refine st2 _ ?_
    show Steps p.tables e below (T2.setTop (mkF m 18 #[.val (.ref s1), .val (.ref s2), .unset] [(.ref s2)])) _
    refine XS.astoreN X2.here hx rfl (hb hby own_d12_18) rfl rfl (l' := #[.val (.ref s1), .val (.ref s2), .val (.ref s2)]) rfl ?_
    show Steps p.tables e below (T2.setTop (mkF m 19 #[.val (.ref s1), .val (.ref s2), .val (.ref s2)] [])) _
    refine st3 _ ?_
    show Steps p.tables e below (T3.setTop (mkF m 22 #[.val (.ref s1), .val (.ref s2), .val (.ref s2)] [(.int cz)])) _
    refine XS.ifNo X3.here hx rfl (hb hby own_d12_22) rfl ((if0 _ _).trans (feq hcz).1) ?_
    show Steps p.tables e below (T3.setTop (mkF m 25 #[.val (.ref s1), .val (.ref s2), .val (.ref s2)] [])) _
    refine XS.aloadN X3.here hx rfl (hb hby own_d12_25) rfl rfl ?_
    show Steps p.tables e below (T3.setTop (mkF m 26 #[.val (.ref s1), .val (.ref s2), .val (.ref s2)] [(.ref s1)])) _
    refine st4 _ ?_
    show Steps p.tables e below (T4.setTop (mkF m 29 #[.val (.ref s1), .val (.ref s2), .val (.ref s2)] [(.int (0 : Int32))])) _
    refine XS.aloadN X4.here hx rfl (hb hby own_d12_29) rfl rfl ?_
    show Steps p.tables e below (T4.setTop (mkF m 30 #[.val (.ref s1), .val (.ref s2), .val (.ref s2)] [(.ref s2), (.int (0 : Int32))])) _
    refine st5 _ ?_
    show Steps p.tables e below (T5.setTop (mkF m 33 #[.val (.ref s1), .val (.ref s2), .val (.ref s2)] [(.int (0 : Int32)), (.int (0 : Int32))])) _
    refine XS.icmpNo X5.here hx rfl (hb hby own_d12_33) rfl (teq (by decide : (0 : Int32) = (0 : Int32))).2 ?_
    show Steps p.tables e below (T5.setTop (mkF m 36 #[.val (.ref s1), .val (.ref s2), .val (.ref s2)] [])) _
    refine XS.aloadN X5.here hx rfl (hb hby own_d12_36) rfl rfl ?_
    show Steps p.tables e below (T5.setTop (mkF m 37 #[.val (.ref s1), .val (.ref s2), .val (.ref s2)] [(.ref s1)])) _
    refine st6 _ ?_
    show Steps p.tables e below (T6.setTop (mkF m 40 #[.val (.ref s1), .val (.ref s2), .val (.ref s2)] [(.ref b1)])) _
    refine XS.aloadN X6.here hx rfl (hb hby own_d12_40) rfl rfl ?_
    show Steps p.tables e below (T6.setTop (mkF m 41 #[.val (.ref s1), .val (.ref s2), .val (.ref s2)] [(.ref s2), (.ref b1)])) _
    refine st7 _ ?_
    show Steps p.tables e below (T7.setTop (mkF m 44 #[.val (.ref s1), .val (.ref s2), .val (.ref s2)] [(.ref b2), (.ref b1)])) _
    refine st8 _ ?_
    show Steps p.tables e below (T8.setTop (mkF m 47 #[.val (.ref s1), .val (.ref s2), .val (.ref s2)] [(.int (0 : Int32))])) _
    refine XS.ifYes X8.here hx rfl (pc0 := 47) (pc' := 54) rfl (hb hby own_d12_47) rfl ((if0 _ _).trans (teq (by decide : (0 : Int32) = (0 : Int32))).1) (by decide) (by decide) ?_
    show Steps p.tables e below (T8.setTop (mkF m 54 #[.val (.ref s1), .val (.ref s2), .val (.ref s2)] [])) _
    refine XS.iconst X8.here hx rfl (hb hby own_d12_54) ?_
    show Steps p.tables e below (T8.setTop (mkF m 55 #[.val (.ref s1), .val (.ref s2), .val (.ref s2)] [(.int (0 : Int32))])) _
    exact retN X8 hx (t := .boolean) Bd.returns (by simp) (hb hby own_d12_55) hr
  · show own_Q_own_seq21 Z s1 s2 b1 b2 k1 k2 cz x1 x2 y1 h0 n0 _ T8.heap _
    rw [e8]
    exact ⟨rfl, N8, rfl⟩
def own_Q_own_teq21 (Z : State) (t1 : Addr) (t2 : Addr) (s1 : Addr) (s2 : Addr) (w1 : Int32) (w2 : Int32) (b1 : Addr) (b2 : Addr) (k1 : ClassId) (k2 : ClassId) (cz : Int32) (x1 : Int32) (x2 : Int32) (y1 : Int32) (h0 : Heap) (n0 : Nat) (v : Option Value) (h : Heap) (L : List Loc) : Prop := v = some (.int (0 : Int32)) ∧ Fr n0 L ∧ h = h0
set_option maxRecDepth 65536 in
set_option maxHeartbeats 40000000 in
theorem own_teq21 (l : Launch) (Z : State) (a0 : Array Value) (hw : ∀ d ∈ tables_1, d.before a0 Z = true) (ws : List Jvm.Cond) (t1 : Addr) (t2 : Addr) (s1 : Addr) (s2 : Addr) (w1 : Int32) (w2 : Int32) (b1 : Addr) (b2 : Addr) (k1 : ClassId) (k2 : ClassId) (cz : Int32) (x1 : Int32) (x2 : Int32) (y1 : Int32) (h0 : Heap) (n0 : Nat) (Z0 : n0 ≤ h0.size) (Et : Exa Z h0 t2 "com/example/vigilant_consumer/vigilantconsumer/TopicPartition") (Fat : Fld Z h0 t1 "com/example/vigilant_consumer/vigilantconsumer/TopicPartition" "topic" "Ljava/lang/String;" (.ref s1)) (Fap : Fld Z h0 t1 "com/example/vigilant_consumer/vigilantconsumer/TopicPartition" "partition" "I" (.int w1)) (Fbt : Fld Z h0 t2 "com/example/vigilant_consumer/vigilantconsumer/TopicPartition" "topic" "Ljava/lang/String;" (.ref s2)) (Fbp : Fld Z h0 t2 "com/example/vigilant_consumer/vigilantconsumer/TopicPartition" "partition" "I" (.int w2)) (E1 : Exa Z h0 s1 "java/lang/String") (Fc1 : Fld Z h0 s1 "java/lang/String" "coder" "B" (.int (0 : Int32))) (Fv1 : Fld Z h0 s1 "java/lang/String" "value" "[B" (.ref b1)) (V1 : Arv Z h0 b1 k1 .byte (2 : Int32) [(.int x1), (.int x2)] (.int (0 : Int32))) (E2 : Exa Z h0 s2 "java/lang/String") (Fc2 : Fld Z h0 s2 "java/lang/String" "coder" "B" (.int (0 : Int32))) (Fv2 : Fld Z h0 s2 "java/lang/String" "value" "[B" (.ref b2)) (V2 : Arv Z h0 b2 k2 .byte (1 : Int32) [(.int y1)] (.int (0 : Int32))) (ne1 : s1 ≠ s2) (S : Sta Z h0 "java/lang/String" "COMPACT_STRINGS" "Z" (.int cz)) (hcz : ¬ (cz = (0 : Int32))) :
    MetFree l (⟨"com/example/vigilant_consumer/vigilantconsumer/TopicPartition", "equals", "(Ljava/lang/Object;)Z"⟩ : MethodName) (head1 (Jvm.Cond.code (⟨"com/example/vigilant_consumer/vigilantconsumer/TopicPartition", "equals", "(Ljava/lang/Object;)Z"⟩ : MethodName) prog_59_method_2_code 3 (some .boolean) :: ws) ({ frames := 2, cells := 0, slots := 0, locals := 28 } : Room)) (fun as_ U => as_ = #[(.ref t1), (.ref t2)] ∧ Z.Warmed39 U.vm ∧ U.heap = h0) (fun _ _ _ _ _ => True) (fun _ U o U' => ∃ v L, o = .returned v ∧ own_Q_own_teq21 Z t1 t2 s1 s2 w1 w2 b1 b2 k1 k2 cz x1 x2 y1 h0 n0 v U'.heap L ∧ FrameEnd U o U' L ({ frames := 2, cells := 0, slots := 0, locals := 28 } : Room).cells ({ frames := 2, cells := 0, slots := 0, locals := 28 } : Room).slots) := by
  refine MetFree.of_bodySF (plainFor_of_name own_pn4) hisR ?_
  intro p e s m args below meth c s₁ Bd hml0 hP hK
  obtain ⟨rfl, hZ, hh⟩ := hP
  have hx := Bd.exec
  have hby := Bd.bytes
  have hml : c.maxLocals = 3 := hml0
  have hown : s.vm.findClass "com/example/vigilant_consumer/vigilantconsumer/TopicPartition" = some m.cls := findClass_of_methodNamed Bd.named
  have hnm := (name_of_methodNamed Bd.named Bd.method).1
  have X0 : Stand p l e ({ frames := 2, cells := 0, slots := 0, locals := 28 } : Room) s m #[(.ref t1), (.ref t2)] below meth c s₁ [] 0 0 := Stand.of_body Bd
  have e0 : s₁.heap = h0 := by rw [← hh, Bd.state]; rfl
  have N0 := Fr.nil n0
  have pre0 : ∀ t, Steps p.tables e below (s₁.setTop (mkF m 0 #[.val (.ref t1), .val (.ref t2), .unset] [])) t → Steps p.tables e below (s₁.setTop (entryFrame m #[(.ref t1), (.ref t2)] 3)) t := fun t k => castTop (own_ef11 m t1 t2) k
  obtain ⟨T1, X1, e1, st1⟩ := instY X0 hx hZ hown (hw _ (List.mem_of_getElem? (i := 64) rfl)) e0 (Ins.self Et) (g := (mkF m 1 #[.val (.ref t1), .val (.ref t2), .unset] [(.ref t2)])) rfl rfl (hb hby own_d11_1)
  obtain ⟨T2, X2, e2, st2⟩ := castY X1 hx hZ hown (hw _ (List.mem_of_getElem? (i := 64) rfl)) e1 (Ins.self Et) (g := (mkF m 8 #[.val (.ref t1), .val (.ref t2), .unset] [(.ref t2)])) rfl rfl (hb hby own_d11_8)
  obtain ⟨T3, X3, e3, st3⟩ := getF X2 hx hZ hown (host := "") (Or.inl (hw _ (List.mem_of_getElem? (i := 57) rfl))) Via.refl e2 Fap (g := (mkF m 13 #[.val (.ref t1), .val (.ref t2), .val (.ref t2)] [(.ref t1)])) rfl rfl (hb hby own_d11_13)
  obtain ⟨T4, X4, e4, st4⟩ := getF X3 hx hZ hown (host := "") (Or.inl (hw _ (List.mem_of_getElem? (i := 57) rfl))) Via.refl e3 Fbp (g := (mkF m 17 #[.val (.ref t1), .val (.ref t2), .val (.ref t2)] [(.ref t2), (.int w1)])) rfl rfl (hb hby own_d11_17)
  have pre5 : ∀ t, Steps p.tables e below (T4.setTop (mkF m 20 #[.val (.ref t1), .val (.ref t2), .val (.ref t2)] [(.int w2), (.int w1)])) t → Steps p.tables e below (s₁.setTop (entryFrame m #[(.ref t1), (.ref t2)] 3)) t := fun t k => pre0 t (by
    show Steps p.tables e below (s₁.setTop (mkF m 0 #[.val (.ref t1), .val (.ref t2), .unset] [])) _
    refine XS.aloadN X0.here hx rfl (hb hby own_d11_0) rfl rfl ?_
    show Steps p.tables e below (s₁.setTop (mkF m 1 #[.val (.ref t1), .val (.ref t2), .unset] [(.ref t2)])) _
    refine st1 _ ?_
    show Steps p.tables e below (T1.setTop (mkF m 4 #[.val (.ref t1), .val (.ref t2), .unset] [(.int (1 : Int32))])) _
    refine XS.ifNo X1.here hx rfl (hb hby own_d11_4) rfl ((if0 _ _).trans (feq (by decide : ¬ ((1 : Int32) = (0 : Int32)))).1) ?_
    show Steps p.tables e below (T1.setTop (mkF m 7 #[.val (.ref t1), .val (.ref t2), .unset] [])) _
    refine XS.aloadN X1.here hx rfl (hb hby own_d11_7) rfl rfl ?_
    show Steps p.tables e below (T1.setTop (mkF m 8 #[.val (.ref t1), .val (.ref t2), .unset] [(.ref t2)])) _
    refine st2 _ ?_
    show Steps p.tables e below (T2.setTop (mkF m 11 #[.val (.ref t1), .val (.ref t2), .unset] [(.ref t2)])) _
    refine XS.astoreN X2.here hx rfl (hb hby own_d11_11) rfl rfl (l' := #[.val (.ref t1), .val (.ref t2), .val (.ref t2)]) rfl ?_
    show Steps p.tables e below (T2.setTop (mkF m 12 #[.val (.ref t1), .val (.ref t2), .val (.ref t2)] [])) _
    refine XS.aloadN X2.here hx rfl (hb hby own_d11_12) rfl rfl ?_
    show Steps p.tables e below (T2.setTop (mkF m 13 #[.val (.ref t1), .val (.ref t2), .val (.ref t2)] [(.ref t1)])) _
    refine st3 _ ?_
    show Steps p.tables e below (T3.setTop (mkF m 16 #[.val (.ref t1), .val (.ref t2), .val (.ref t2)] [(.int w1)])) _
    refine XS.aloadN X3.here hx rfl (hb hby own_d11_16) rfl rfl ?_
    show Steps p.tables e below (T3.setTop (mkF m 17 #[.val (.ref t1), .val (.ref t2), .val (.ref t2)] [(.ref t2), (.int w1)])) _
    refine st4 _ ?_
    show Steps p.tables e below (T4.setTop (mkF m 20 #[.val (.ref t1), .val (.ref t2), .val (.ref t2)] [(.int w2), (.int w1)])) _
    exact k)
  by_cases hc6 : w1 = w2
  · skip
    obtain ⟨T7, X7, e7, st7⟩ := getF X4 hx hZ hown (host := "") (Or.inl (hw _ (List.mem_of_getElem? (i := 55) rfl))) Via.refl e4 Fat (g := (mkF m 24 #[.val (.ref t1), .val (.ref t2), .val (.ref t2)] [(.ref t1)])) rfl rfl (hb hby own_d11_24)
    obtain ⟨T8, X8, e8, st8⟩ := getF X7 hx hZ hown (host := "") (Or.inl (hw _ (List.mem_of_getElem? (i := 55) rfl))) Via.refl e7 Fbt (g := (mkF m 28 #[.val (.ref t1), .val (.ref t2), .val (.ref t2)] [(.ref t2), (.ref s1)])) rfl rfl (hb hby own_d11_28)
    obtain ⟨cq9, kq9, q9a, q9b, q9c⟩ := isOf hZ e8 E1
    obtain ⟨_, _, ⟨T9, L9, k9, n9⟩, -, X9, ⟨Lc9, hQ9, l9, y9, z9⟩, st9⟩ := X8.virtualBack hx (y := (⟨"java/lang/String", "equals", "(Ljava/lang/Object;)Z"⟩ : MethodName)) (z := (⟨"java/lang/String", "equals", "(Ljava/lang/Object;)Z"⟩ : MethodName)) hown (mvT hZ (hw _ (List.mem_of_getElem? (i := 68) rfl))) (mvT hZ (hw _ (List.mem_of_getElem? (i := 69) rfl))) (notFace_of_selects (args := #[]) (mvT hZ (hw _ (List.mem_of_getElem? (i := 71) rfl)))) (mvT hZ (hw _ (List.mem_of_getElem? (i := 71) rfl))) (mvT hZ (hw _ (List.mem_of_getElem? (i := 70) rfl))) (by decide) (backOf (W := 0) (own_seq21 l Z a0 hw [] s1 s2 b1 b2 k1 k2 cz x1 x2 y1 h0 n0 Z0 E1 Fc1 Fv1 V1 E2 Fc2 Fv2 V2 ne1 S hcz) hZ (hw _ (List.mem_of_getElem? (i := 72) rfl)) (hw _ (List.mem_of_getElem? (i := 3) rfl)) (by decide) (by decide)) q9a q9c (g := (mkF m 31 #[.val (.ref t1), .val (.ref t2), .val (.ref t2)] [(.ref s2), (.ref s1)])) rfl (by rw [hml]; rfl) (Steps.refl _) (argsL := [(.ref s2)]) (rest := []) (lenOf own_pd8 rfl) rfl (by show 2 * 0 + _ ≤ _; exact Nat.le_of_eq rfl) (hb hby own_d11_31) (fun _ _ => ⟨rfl, e8, (by decide : 0 + 0 ≤ _), (by decide : 0 + 0 ≤ _)⟩)
    dsimp only [Pt.U, Pt.locs, Pt.cells, Pt.slots] at X9 l9 y9 z9 st9 hQ9
    subst l9 y9 z9
    obtain ⟨rfl, N9q, e9⟩ := hQ9
    have N9 := Fr.app N0 N9q
    obtain ⟨fs, hr, hrun, hended, hW, hsame⟩ := X9.leave (v := some (.int (0 : Int32))) (fun h => by rw [Bd.returns] at h; cases h)
    refine ⟨_, _, pre5 _ ?_, hrun, hended, _, _, rfl, ?_, ⟨_, rfl⟩, hW, hsame.mono (by decide) (by decide)⟩
    · refine XS.icmpNo X4.here hx rfl (hb hby own_d11_20) rfl (teq hc6).2 ?_
      show Steps p.tables e below (T4.setTop (mkF m 23 #[.val (.ref t1), .val (.ref t2), .val (.ref t2)] [])) _
      refine XS.aloadN X4.here hx rfl (hb hby own_d11_23) rfl rfl ?_
      show Steps p.tables e below (T4.setTop (mkF m 24 #[.val (.ref t1), .val (.ref t2), .val (.ref t2)] [(.ref t1)])) _
      refine st7 _ ?_
      show Steps p.tables e below (T7.setTop (mkF m 27 #[.val (.ref t1), .val (.ref t2), .val (.ref t2)] [(.ref s1)])) _
      refine XS.aloadN X7.here hx rfl (hb hby own_d11_27) rfl rfl ?_
      show Steps p.tables e below (T7.setTop (mkF m 28 #[.val (.ref t1), .val (.ref t2), .val (.ref t2)] [(.ref t2), (.ref s1)])) _
      refine st8 _ ?_
      show Steps p.tables e below (T8.setTop (mkF m 31 #[.val (.ref t1), .val (.ref t2), .val (.ref t2)] [(.ref s2), (.ref s1)])) _
      refine st9.trans ?_
      show Steps p.tables e below (T9.setTop (mkF m 34 #[.val (.ref t1), .val (.ref t2), .val (.ref t2)] [(.int (0 : Int32))])) _
      refine XS.ifYes X9.here hx rfl (pc0 := 34) (pc' := 41) rfl (hb hby own_d11_34) rfl ((if0 _ _).trans (teq (by decide : (0 : Int32) = (0 : Int32))).1) (by decide) (by decide) ?_
      show Steps p.tables e below (T9.setTop (mkF m 41 #[.val (.ref t1), .val (.ref t2), .val (.ref t2)] [])) _
      refine XS.iconst X9.here hx rfl (hb hby own_d11_41) ?_
      show Steps p.tables e below (T9.setTop (mkF m 42 #[.val (.ref t1), .val (.ref t2), .val (.ref t2)] [(.int (0 : Int32))])) _
      exact retN X9 hx (t := .boolean) Bd.returns (by simp) (hb hby own_d11_42) hr
    · show own_Q_own_teq21 Z t1 t2 s1 s2 w1 w2 b1 b2 k1 k2 cz x1 x2 y1 h0 n0 _ T9.heap _
      rw [e9]
      exact ⟨by simp [hc6], N9, rfl⟩
  · skip
    obtain ⟨fs, hr, hrun, hended, hW, hsame⟩ := X4.leave (v := some (.int (0 : Int32))) (fun h => by rw [Bd.returns] at h; cases h)
    refine ⟨_, _, pre5 _ ?_, hrun, hended, _, _, rfl, ?_, ⟨_, rfl⟩, hW, hsame.mono (by decide) (by decide)⟩
    · refine XS.icmpYes X4.here hx rfl (pc0 := 20) (pc' := 41) rfl (hb hby own_d11_20) rfl (feq hc6).2 (by decide) (by decide) ?_
      show Steps p.tables e below (T4.setTop (mkF m 41 #[.val (.ref t1), .val (.ref t2), .val (.ref t2)] [])) _
      refine XS.iconst X4.here hx rfl (hb hby own_d11_41) ?_
      show Steps p.tables e below (T4.setTop (mkF m 42 #[.val (.ref t1), .val (.ref t2), .val (.ref t2)] [(.int (0 : Int32))])) _
      exact retN X4 hx (t := .boolean) Bd.returns (by simp) (hb hby own_d11_42) hr
    · show own_Q_own_teq21 Z t1 t2 s1 s2 w1 w2 b1 b2 k1 k2 cz x1 x2 y1 h0 n0 _ T4.heap _
      rw [e4]
      exact ⟨by simp [hc6], N0, rfl⟩
def own_Q_own_leq22 (Z : State) (b1 : Addr) (b2 : Addr) (k1 : ClassId) (k2 : ClassId) (x1 : Int32) (x2 : Int32) (y1 : Int32) (y2 : Int32) (h0 : Heap) (n0 : Nat) (v : Option Value) (h : Heap) (L : List Loc) : Prop := v = some (.int (if (x1 = y1 ∧ x2 = y2) then (1 : Int32) else (0 : Int32))) ∧ Fr n0 L ∧ h = h0
set_option maxRecDepth 65536 in
set_option maxHeartbeats 40000000 in
theorem own_leq22 (l : Launch) (Z : State) (a0 : Array Value) (hw : ∀ d ∈ tables_1, d.before a0 Z = true) (ws : List Jvm.Cond) (b1 : Addr) (b2 : Addr) (k1 : ClassId) (k2 : ClassId) (x1 : Int32) (x2 : Int32) (y1 : Int32) (y2 : Int32) (h0 : Heap) (n0 : Nat) (Z0 : n0 ≤ h0.size) (V1 : Arv Z h0 b1 k1 .byte (2 : Int32) [(.int x1), (.int x2)] (.int (0 : Int32))) (V2 : Arv Z h0 b2 k2 .byte (2 : Int32) [(.int y1), (.int y2)] (.int (0 : Int32))) :
    MetFree l (⟨"java/lang/StringLatin1", "equals", "([B[B)Z"⟩ : MethodName) (head1 (Jvm.Cond.code (⟨"java/lang/StringLatin1", "equals", "([B[B)Z"⟩ : MethodName) jdk_43_method_13_code 3 (some .boolean) :: ws) ({ frames := 0, cells := 0, slots := 0, locals := 0 } : Room)) (fun as_ U => as_ = #[(.ref b1), (.ref b2)] ∧ Z.Warmed39 U.vm ∧ U.heap = h0) (fun _ _ _ _ _ => True) (fun _ U o U' => ∃ v L, o = .returned v ∧ own_Q_own_leq22 Z b1 b2 k1 k2 x1 x2 y1 y2 h0 n0 v U'.heap L ∧ FrameEnd U o U' L ({ frames := 0, cells := 0, slots := 0, locals := 0 } : Room).cells ({ frames := 0, cells := 0, slots := 0, locals := 0 } : Room).slots) := by
  refine MetFree.of_bodySF (plainFor_of_name own_pn5) hisR ?_
  intro p e s m args below meth c s₁ Bd hml0 hP hK
  obtain ⟨rfl, hZ, hh⟩ := hP
  have hx := Bd.exec
  have hby := Bd.bytes
  have hml : c.maxLocals = 3 := hml0
  have hown : s.vm.findClass "java/lang/StringLatin1" = some m.cls := findClass_of_methodNamed Bd.named
  have hnm := (name_of_methodNamed Bd.named Bd.method).1
  have X0 : Stand p l e ({ frames := 0, cells := 0, slots := 0, locals := 0 } : Room) s m #[(.ref b1), (.ref b2)] below meth c s₁ [] 0 0 := Stand.of_body Bd
  have e0 : s₁.heap = h0 := by rw [← hh, Bd.state]; rfl
  have N0 := Fr.nil n0
  have pre0 : ∀ t, Steps p.tables e below (s₁.setTop (mkF m 0 #[.val (.ref b1), .val (.ref b2), .unset] [])) t → Steps p.tables e below (s₁.setTop (entryFrame m #[(.ref b1), (.ref b2)] 3)) t := fun t k => castTop (own_ef13 m b1 b2) k
  obtain ⟨cl1, Ar1, q1, S1, M1, H1, G1⟩ := id V1
  obtain ⟨cl2, Ar2, q2, S2, M2, H2, G2⟩ := id V2
  obtain ⟨cl3, Ar3, q3, S3, M3, H3, G3⟩ := id V1
  obtain ⟨cl4, Ar4, q4, S4, M4, H4, G4⟩ := id V1
  have hin4 : ¬ ((0 : Int32) < 0 ∨ cl4.slots.size ≤ ((0 : Int32)).toNatClampNeg) := inb_of S4 ⟨by decide, by decide⟩
  obtain ⟨cl5, Ar5, q5, S5, M5, H5, G5⟩ := id V2
  have hin5 : ¬ ((0 : Int32) < 0 ∨ cl5.slots.size ≤ ((0 : Int32)).toNatClampNeg) := inb_of S5 ⟨by decide, by decide⟩
  have pre6 : ∀ t, Steps p.tables e below (s₁.setTop (mkF m 21 #[.val (.ref b1), .val (.ref b2), .val (.int (0 : Int32))] [(.int y1), (.int x1)])) t → Steps p.tables e below (s₁.setTop (entryFrame m #[(.ref b1), (.ref b2)] 3)) t := fun t k => pre0 t (by
    show Steps p.tables e below (s₁.setTop (mkF m 0 #[.val (.ref b1), .val (.ref b2), .unset] [])) _
    refine XS.aloadN X0.here hx rfl (hb hby own_d13_0) rfl rfl ?_
    show Steps p.tables e below (s₁.setTop (mkF m 1 #[.val (.ref b1), .val (.ref b2), .unset] [(.ref b1)])) _
    refine X0.arraylength hx (by rw [e0]; exact Ar1.1) (State.isArrayOf_alike hZ.alike Ar1.2.1) (g := (mkF m 1 #[.val (.ref b1), .val (.ref b2), .unset] [(.ref b1)])) rfl rfl (hb hby own_d13_1) _ ?_
    rw [len_of S1 M1]
    show Steps p.tables e below (s₁.setTop (mkF m 2 #[.val (.ref b1), .val (.ref b2), .unset] [(.int (2 : Int32))])) _
    refine XS.aloadN X0.here hx rfl (hb hby own_d13_2) rfl rfl ?_
    show Steps p.tables e below (s₁.setTop (mkF m 3 #[.val (.ref b1), .val (.ref b2), .unset] [(.ref b2), (.int (2 : Int32))])) _
    refine X0.arraylength hx (by rw [e0]; exact Ar2.1) (State.isArrayOf_alike hZ.alike Ar2.2.1) (g := (mkF m 3 #[.val (.ref b1), .val (.ref b2), .unset] [(.ref b2), (.int (2 : Int32))])) rfl rfl (hb hby own_d13_3) _ ?_
    rw [len_of S2 M2]
    show Steps p.tables e below (s₁.setTop (mkF m 4 #[.val (.ref b1), .val (.ref b2), .unset] [(.int (2 : Int32)), (.int (2 : Int32))])) _
    refine XS.icmpNo X0.here hx rfl (hb hby own_d13_4) rfl (teq (by decide : (2 : Int32) = (2 : Int32))).2 ?_
    show Steps p.tables e below (s₁.setTop (mkF m 7 #[.val (.ref b1), .val (.ref b2), .unset] [])) _
    refine XS.iconst X0.here hx rfl (hb hby own_d13_7) ?_
    show Steps p.tables e below (s₁.setTop (mkF m 8 #[.val (.ref b1), .val (.ref b2), .unset] [(.int (0 : Int32))])) _
    refine XS.istoreN X0.here hx rfl (hb hby own_d13_8) rfl (l' := #[.val (.ref b1), .val (.ref b2), .val (.int (0 : Int32))]) rfl ?_
    show Steps p.tables e below (s₁.setTop (mkF m 9 #[.val (.ref b1), .val (.ref b2), .val (.int (0 : Int32))] [])) _
    refine XS.iloadN X0.here hx rfl (hb hby own_d13_9) rfl ?_
    show Steps p.tables e below (s₁.setTop (mkF m 10 #[.val (.ref b1), .val (.ref b2), .val (.int (0 : Int32))] [(.int (0 : Int32))])) _
    refine XS.aloadN X0.here hx rfl (hb hby own_d13_10) rfl rfl ?_
    show Steps p.tables e below (s₁.setTop (mkF m 11 #[.val (.ref b1), .val (.ref b2), .val (.int (0 : Int32))] [(.ref b1), (.int (0 : Int32))])) _
    refine X0.arraylength hx (by rw [e0]; exact Ar3.1) (State.isArrayOf_alike hZ.alike Ar3.2.1) (g := (mkF m 11 #[.val (.ref b1), .val (.ref b2), .val (.int (0 : Int32))] [(.ref b1), (.int (0 : Int32))])) rfl rfl (hb hby own_d13_11) _ ?_
    rw [len_of S3 M3]
    show Steps p.tables e below (s₁.setTop (mkF m 12 #[.val (.ref b1), .val (.ref b2), .val (.int (0 : Int32))] [(.int (2 : Int32)), (.int (0 : Int32))])) _
    refine XS.icmpNo X0.here hx rfl (hb hby own_d13_12) rfl (tlt (by decide : (0 : Int32) < (2 : Int32))).2.1 ?_
    show Steps p.tables e below (s₁.setTop (mkF m 15 #[.val (.ref b1), .val (.ref b2), .val (.int (0 : Int32))] [])) _
    refine XS.aloadN X0.here hx rfl (hb hby own_d13_15) rfl rfl ?_
    show Steps p.tables e below (s₁.setTop (mkF m 16 #[.val (.ref b1), .val (.ref b2), .val (.int (0 : Int32))] [(.ref b1)])) _
    refine XS.iloadN X0.here hx rfl (hb hby own_d13_16) rfl ?_
    show Steps p.tables e below (s₁.setTop (mkF m 17 #[.val (.ref b1), .val (.ref b2), .val (.int (0 : Int32))] [(.int (0 : Int32)), (.ref b1)])) _
    refine X0.baloadBytes hx (j := (0 : Int32)) (v := (.int x1)) (by rw [e0]; exact Ar4.1) (State.isArrayOf_alike hZ.alike Ar4.2.1) Ar4.2.2 hin4 (H4.at hin4 rfl) (g := (mkF m 17 #[.val (.ref b1), .val (.ref b2), .val (.int (0 : Int32))] [(.int (0 : Int32)), (.ref b1)])) rfl rfl (hb hby own_d13_17) _ ?_
    show Steps p.tables e below (s₁.setTop (mkF m 18 #[.val (.ref b1), .val (.ref b2), .val (.int (0 : Int32))] [(.int x1)])) _
    refine XS.aloadN X0.here hx rfl (hb hby own_d13_18) rfl rfl ?_
    show Steps p.tables e below (s₁.setTop (mkF m 19 #[.val (.ref b1), .val (.ref b2), .val (.int (0 : Int32))] [(.ref b2), (.int x1)])) _
    refine XS.iloadN X0.here hx rfl (hb hby own_d13_19) rfl ?_
    show Steps p.tables e below (s₁.setTop (mkF m 20 #[.val (.ref b1), .val (.ref b2), .val (.int (0 : Int32))] [(.int (0 : Int32)), (.ref b2), (.int x1)])) _
    refine X0.baloadBytes hx (j := (0 : Int32)) (v := (.int y1)) (by rw [e0]; exact Ar5.1) (State.isArrayOf_alike hZ.alike Ar5.2.1) Ar5.2.2 hin5 (H5.at hin5 rfl) (g := (mkF m 20 #[.val (.ref b1), .val (.ref b2), .val (.int (0 : Int32))] [(.int (0 : Int32)), (.ref b2), (.int x1)])) rfl rfl (hb hby own_d13_20) _ ?_
    show Steps p.tables e below (s₁.setTop (mkF m 21 #[.val (.ref b1), .val (.ref b2), .val (.int (0 : Int32))] [(.int y1), (.int x1)])) _
    exact k)
  by_cases hc7 : x1 = y1
  · skip
    obtain ⟨cl8, Ar8, q8, S8, M8, H8, G8⟩ := id V1
    obtain ⟨cl9, Ar9, q9, S9, M9, H9, G9⟩ := id V1
    have hin9 : ¬ ((1 : Int32) < 0 ∨ cl9.slots.size ≤ ((1 : Int32)).toNatClampNeg) := inb_of S9 ⟨by decide, by decide⟩
    obtain ⟨cl10, Ar10, q10, S10, M10, H10, G10⟩ := id V2
    have hin10 : ¬ ((1 : Int32) < 0 ∨ cl10.slots.size ≤ ((1 : Int32)).toNatClampNeg) := inb_of S10 ⟨by decide, by decide⟩
    have pre11 : ∀ t, Steps p.tables e below (s₁.setTop (mkF m 21 #[.val (.ref b1), .val (.ref b2), .val (.int (1 : Int32))] [(.int y2), (.int x2)])) t → Steps p.tables e below (s₁.setTop (entryFrame m #[(.ref b1), (.ref b2)] 3)) t := fun t k => pre6 t (by
      refine XS.icmpYes X0.here hx rfl (pc0 := 21) (pc' := 26) rfl (hb hby own_d13_21) rfl (teq hc7).1 (by decide) (by decide) ?_
      show Steps p.tables e below (s₁.setTop (mkF m 26 #[.val (.ref b1), .val (.ref b2), .val (.int (0 : Int32))] [])) _
      refine XS.iinc X0.here hx rfl (hb hby own_d13_26) rfl (l' := #[.val (.ref b1), .val (.ref b2), .val (.int (1 : Int32))]) rfl ?_
      show Steps p.tables e below (s₁.setTop (mkF m 29 #[.val (.ref b1), .val (.ref b2), .val (.int (1 : Int32))] [])) _
      refine XS.goto X0.here hx rfl (pc0 := 29) (pc' := 9) rfl (hb hby own_d13_29) (by decide) (by decide) ?_
      show Steps p.tables e below (s₁.setTop (mkF m 9 #[.val (.ref b1), .val (.ref b2), .val (.int (1 : Int32))] [])) _
      refine XS.iloadN X0.here hx rfl (hb hby own_d13_9) rfl ?_
      show Steps p.tables e below (s₁.setTop (mkF m 10 #[.val (.ref b1), .val (.ref b2), .val (.int (1 : Int32))] [(.int (1 : Int32))])) _
      refine XS.aloadN X0.here hx rfl (hb hby own_d13_10) rfl rfl ?_
      show Steps p.tables e below (s₁.setTop (mkF m 11 #[.val (.ref b1), .val (.ref b2), .val (.int (1 : Int32))] [(.ref b1), (.int (1 : Int32))])) _
      refine X0.arraylength hx (by rw [e0]; exact Ar8.1) (State.isArrayOf_alike hZ.alike Ar8.2.1) (g := (mkF m 11 #[.val (.ref b1), .val (.ref b2), .val (.int (1 : Int32))] [(.ref b1), (.int (1 : Int32))])) rfl rfl (hb hby own_d13_11) _ ?_
      rw [len_of S8 M8]
      show Steps p.tables e below (s₁.setTop (mkF m 12 #[.val (.ref b1), .val (.ref b2), .val (.int (1 : Int32))] [(.int (2 : Int32)), (.int (1 : Int32))])) _
      refine XS.icmpNo X0.here hx rfl (hb hby own_d13_12) rfl (tlt (by decide : (1 : Int32) < (2 : Int32))).2.1 ?_
      show Steps p.tables e below (s₁.setTop (mkF m 15 #[.val (.ref b1), .val (.ref b2), .val (.int (1 : Int32))] [])) _
      refine XS.aloadN X0.here hx rfl (hb hby own_d13_15) rfl rfl ?_
      show Steps p.tables e below (s₁.setTop (mkF m 16 #[.val (.ref b1), .val (.ref b2), .val (.int (1 : Int32))] [(.ref b1)])) _
      refine XS.iloadN X0.here hx rfl (hb hby own_d13_16) rfl ?_
      show Steps p.tables e below (s₁.setTop (mkF m 17 #[.val (.ref b1), .val (.ref b2), .val (.int (1 : Int32))] [(.int (1 : Int32)), (.ref b1)])) _
      refine X0.baloadBytes hx (j := (1 : Int32)) (v := (.int x2)) (by rw [e0]; exact Ar9.1) (State.isArrayOf_alike hZ.alike Ar9.2.1) Ar9.2.2 hin9 (H9.at hin9 rfl) (g := (mkF m 17 #[.val (.ref b1), .val (.ref b2), .val (.int (1 : Int32))] [(.int (1 : Int32)), (.ref b1)])) rfl rfl (hb hby own_d13_17) _ ?_
      show Steps p.tables e below (s₁.setTop (mkF m 18 #[.val (.ref b1), .val (.ref b2), .val (.int (1 : Int32))] [(.int x2)])) _
      refine XS.aloadN X0.here hx rfl (hb hby own_d13_18) rfl rfl ?_
      show Steps p.tables e below (s₁.setTop (mkF m 19 #[.val (.ref b1), .val (.ref b2), .val (.int (1 : Int32))] [(.ref b2), (.int x2)])) _
      refine XS.iloadN X0.here hx rfl (hb hby own_d13_19) rfl ?_
      show Steps p.tables e below (s₁.setTop (mkF m 20 #[.val (.ref b1), .val (.ref b2), .val (.int (1 : Int32))] [(.int (1 : Int32)), (.ref b2), (.int x2)])) _
      refine X0.baloadBytes hx (j := (1 : Int32)) (v := (.int y2)) (by rw [e0]; exact Ar10.1) (State.isArrayOf_alike hZ.alike Ar10.2.1) Ar10.2.2 hin10 (H10.at hin10 rfl) (g := (mkF m 20 #[.val (.ref b1), .val (.ref b2), .val (.int (1 : Int32))] [(.int (1 : Int32)), (.ref b2), (.int x2)])) rfl rfl (hb hby own_d13_20) _ ?_
      show Steps p.tables e below (s₁.setTop (mkF m 21 #[.val (.ref b1), .val (.ref b2), .val (.int (1 : Int32))] [(.int y2), (.int x2)])) _
      exact k)
    by_cases hc12 : x2 = y2
    · skip
      obtain ⟨cl13, Ar13, q13, S13, M13, H13, G13⟩ := id V1
      obtain ⟨fs, hr, hrun, hended, hW, hsame⟩ := X0.leave (v := some (.int (1 : Int32))) (fun h => by rw [Bd.returns] at h; cases h)
      refine ⟨_, _, pre11 _ ?_, hrun, hended, _, _, rfl, ?_, ⟨_, rfl⟩, hW, hsame.mono (by decide) (by decide)⟩
      · refine XS.icmpYes X0.here hx rfl (pc0 := 21) (pc' := 26) rfl (hb hby own_d13_21) rfl (teq hc12).1 (by decide) (by decide) ?_
        show Steps p.tables e below (s₁.setTop (mkF m 26 #[.val (.ref b1), .val (.ref b2), .val (.int (1 : Int32))] [])) _
        refine XS.iinc X0.here hx rfl (hb hby own_d13_26) rfl (l' := #[.val (.ref b1), .val (.ref b2), .val (.int (2 : Int32))]) rfl ?_
        show Steps p.tables e below (s₁.setTop (mkF m 29 #[.val (.ref b1), .val (.ref b2), .val (.int (2 : Int32))] [])) _
        refine XS.goto X0.here hx rfl (pc0 := 29) (pc' := 9) rfl (hb hby own_d13_29) (by decide) (by decide) ?_
        show Steps p.tables e below (s₁.setTop (mkF m 9 #[.val (.ref b1), .val (.ref b2), .val (.int (2 : Int32))] [])) _
        refine XS.iloadN X0.here hx rfl (hb hby own_d13_9) rfl ?_
        show Steps p.tables e below (s₁.setTop (mkF m 10 #[.val (.ref b1), .val (.ref b2), .val (.int (2 : Int32))] [(.int (2 : Int32))])) _
        refine XS.aloadN X0.here hx rfl (hb hby own_d13_10) rfl rfl ?_
        show Steps p.tables e below (s₁.setTop (mkF m 11 #[.val (.ref b1), .val (.ref b2), .val (.int (2 : Int32))] [(.ref b1), (.int (2 : Int32))])) _
        refine X0.arraylength hx (by rw [e0]; exact Ar13.1) (State.isArrayOf_alike hZ.alike Ar13.2.1) (g := (mkF m 11 #[.val (.ref b1), .val (.ref b2), .val (.int (2 : Int32))] [(.ref b1), (.int (2 : Int32))])) rfl rfl (hb hby own_d13_11) _ ?_
        rw [len_of S13 M13]
        show Steps p.tables e below (s₁.setTop (mkF m 12 #[.val (.ref b1), .val (.ref b2), .val (.int (2 : Int32))] [(.int (2 : Int32)), (.int (2 : Int32))])) _
        refine XS.icmpYes X0.here hx rfl (pc0 := 12) (pc' := 32) rfl (hb hby own_d13_12) rfl (flt (by decide : ¬ ((2 : Int32) < (2 : Int32)))).2.1 (by decide) (by decide) ?_
        show Steps p.tables e below (s₁.setTop (mkF m 32 #[.val (.ref b1), .val (.ref b2), .val (.int (2 : Int32))] [])) _
        refine XS.iconst X0.here hx rfl (hb hby own_d13_32) ?_
        show Steps p.tables e below (s₁.setTop (mkF m 33 #[.val (.ref b1), .val (.ref b2), .val (.int (2 : Int32))] [(.int (1 : Int32))])) _
        exact retN X0 hx (t := .boolean) Bd.returns (by simp) (hb hby own_d13_33) hr
      · show own_Q_own_leq22 Z b1 b2 k1 k2 x1 x2 y1 y2 h0 n0 _ s₁.heap _
        rw [e0]
        exact ⟨by simp [hc7, hc12], N0, rfl⟩
    · skip
      obtain ⟨fs, hr, hrun, hended, hW, hsame⟩ := X0.leave (v := some (.int (0 : Int32))) (fun h => by rw [Bd.returns] at h; cases h)
      refine ⟨_, _, pre11 _ ?_, hrun, hended, _, _, rfl, ?_, ⟨_, rfl⟩, hW, hsame.mono (by decide) (by decide)⟩
      · refine XS.icmpNo X0.here hx rfl (hb hby own_d13_21) rfl (feq hc12).1 ?_
        show Steps p.tables e below (s₁.setTop (mkF m 24 #[.val (.ref b1), .val (.ref b2), .val (.int (1 : Int32))] [])) _
        refine XS.iconst X0.here hx rfl (hb hby own_d13_24) ?_
        show Steps p.tables e below (s₁.setTop (mkF m 25 #[.val (.ref b1), .val (.ref b2), .val (.int (1 : Int32))] [(.int (0 : Int32))])) _
        exact retN X0 hx (t := .boolean) Bd.returns (by simp) (hb hby own_d13_25) hr
      · show own_Q_own_leq22 Z b1 b2 k1 k2 x1 x2 y1 y2 h0 n0 _ s₁.heap _
        rw [e0]
        exact ⟨by simp [hc7, hc12], N0, rfl⟩
  · skip
    obtain ⟨fs, hr, hrun, hended, hW, hsame⟩ := X0.leave (v := some (.int (0 : Int32))) (fun h => by rw [Bd.returns] at h; cases h)
    refine ⟨_, _, pre6 _ ?_, hrun, hended, _, _, rfl, ?_, ⟨_, rfl⟩, hW, hsame.mono (by decide) (by decide)⟩
    · refine XS.icmpNo X0.here hx rfl (hb hby own_d13_21) rfl (feq hc7).1 ?_
      show Steps p.tables e below (s₁.setTop (mkF m 24 #[.val (.ref b1), .val (.ref b2), .val (.int (0 : Int32))] [])) _
      refine XS.iconst X0.here hx rfl (hb hby own_d13_24) ?_
      show Steps p.tables e below (s₁.setTop (mkF m 25 #[.val (.ref b1), .val (.ref b2), .val (.int (0 : Int32))] [(.int (0 : Int32))])) _
      exact retN X0 hx (t := .boolean) Bd.returns (by simp) (hb hby own_d13_25) hr
    · show own_Q_own_leq22 Z b1 b2 k1 k2 x1 x2 y1 y2 h0 n0 _ s₁.heap _
      rw [e0]
      exact ⟨by simp [hc7], N0, rfl⟩
def own_Q_own_seq22 (Z : State) (s1 : Addr) (s2 : Addr) (b1 : Addr) (b2 : Addr) (k1 : ClassId) (k2 : ClassId) (cz : Int32) (x1 : Int32) (x2 : Int32) (y1 : Int32) (y2 : Int32) (h0 : Heap) (n0 : Nat) (v : Option Value) (h : Heap) (L : List Loc) : Prop := v = some (.int (if (x1 = y1 ∧ x2 = y2) then (1 : Int32) else (0 : Int32))) ∧ Fr n0 L ∧ h = h0
set_option maxRecDepth 65536 in
set_option maxHeartbeats 40000000 in
theorem own_seq22 (l : Launch) (Z : State) (a0 : Array Value) (hw : ∀ d ∈ tables_1, d.before a0 Z = true) (ws : List Jvm.Cond) (s1 : Addr) (s2 : Addr) (b1 : Addr) (b2 : Addr) (k1 : ClassId) (k2 : ClassId) (cz : Int32) (x1 : Int32) (x2 : Int32) (y1 : Int32) (y2 : Int32) (h0 : Heap) (n0 : Nat) (Z0 : n0 ≤ h0.size) (E1 : Exa Z h0 s1 "java/lang/String") (Fc1 : Fld Z h0 s1 "java/lang/String" "coder" "B" (.int (0 : Int32))) (Fv1 : Fld Z h0 s1 "java/lang/String" "value" "[B" (.ref b1)) (V1 : Arv Z h0 b1 k1 .byte (2 : Int32) [(.int x1), (.int x2)] (.int (0 : Int32))) (E2 : Exa Z h0 s2 "java/lang/String") (Fc2 : Fld Z h0 s2 "java/lang/String" "coder" "B" (.int (0 : Int32))) (Fv2 : Fld Z h0 s2 "java/lang/String" "value" "[B" (.ref b2)) (V2 : Arv Z h0 b2 k2 .byte (2 : Int32) [(.int y1), (.int y2)] (.int (0 : Int32))) (ne1 : s1 ≠ s2) (S : Sta Z h0 "java/lang/String" "COMPACT_STRINGS" "Z" (.int cz)) (hcz : ¬ (cz = (0 : Int32))) :
    MetFree l (⟨"java/lang/String", "equals", "(Ljava/lang/Object;)Z"⟩ : MethodName) (head1 (Jvm.Cond.code (⟨"java/lang/String", "equals", "(Ljava/lang/Object;)Z"⟩ : MethodName) jdk_42_method_66_code 3 (some .boolean) :: ws) ({ frames := 1, cells := 0, slots := 0, locals := 14 } : Room)) (fun as_ U => as_ = #[(.ref s1), (.ref s2)] ∧ Z.Warmed39 U.vm ∧ U.heap = h0) (fun _ _ _ _ _ => True) (fun _ U o U' => ∃ v L, o = .returned v ∧ own_Q_own_seq22 Z s1 s2 b1 b2 k1 k2 cz x1 x2 y1 y2 h0 n0 v U'.heap L ∧ FrameEnd U o U' L ({ frames := 1, cells := 0, slots := 0, locals := 14 } : Room).cells ({ frames := 1, cells := 0, slots := 0, locals := 14 } : Room).slots) := by
  refine MetFree.of_bodySF (plainFor_of_name own_pn1) hisR ?_
  intro p e s m args below meth c s₁ Bd hml0 hP hK
  obtain ⟨rfl, hZ, hh⟩ := hP
  have hx := Bd.exec
  have hby := Bd.bytes
  have hml : c.maxLocals = 3 := hml0
  have hown : s.vm.findClass "java/lang/String" = some m.cls := findClass_of_methodNamed Bd.named
  have hnm := (name_of_methodNamed Bd.named Bd.method).1
  have X0 : Stand p l e ({ frames := 1, cells := 0, slots := 0, locals := 14 } : Room) s m #[(.ref s1), (.ref s2)] below meth c s₁ [] 0 0 := Stand.of_body Bd
  have e0 : s₁.heap = h0 := by rw [← hh, Bd.state]; rfl
  have N0 := Fr.nil n0
  have pre0 : ∀ t, Steps p.tables e below (s₁.setTop (mkF m 0 #[.val (.ref s1), .val (.ref s2), .unset] [])) t → Steps p.tables e below (s₁.setTop (entryFrame m #[(.ref s1), (.ref s2)] 3)) t := fun t k => castTop (own_ef12 m s1 s2) k
  obtain ⟨T1, X1, e1, st1⟩ := instY X0 hx hZ hown (hw _ (List.mem_of_getElem? (i := 73) rfl)) e0 (Ins.self E2) (g := (mkF m 8 #[.val (.ref s1), .val (.ref s2), .unset] [(.ref s2)])) rfl rfl (hb hby own_d12_8)
  obtain ⟨T2, X2, e2, st2⟩ := castY X1 hx hZ hown (hw _ (List.mem_of_getElem? (i := 73) rfl)) e1 (Ins.self E2) (g := (mkF m 15 #[.val (.ref s1), .val (.ref s2), .unset] [(.ref s2)])) rfl rfl (hb hby own_d12_15)
  obtain ⟨T3, X3, e3, st3⟩ := getS2 X2 hx hZ hown (host := "") (Or.inl (hw _ (List.mem_of_getElem? (i := 15) rfl))) Via.refl e2 S (g := (mkF m 19 #[.val (.ref s1), .val (.ref s2), .val (.ref s2)] [])) rfl (hb hby own_d12_19)
  obtain ⟨T4, X4, e4, st4⟩ := getF X3 hx hZ hown (host := "") (Or.inl (hw _ (List.mem_of_getElem? (i := 27) rfl))) Via.refl e3 Fc1 (g := (mkF m 26 #[.val (.ref s1), .val (.ref s2), .val (.ref s2)] [(.ref s1)])) rfl rfl (hb hby own_d12_26)
  obtain ⟨T5, X5, e5, st5⟩ := getF X4 hx hZ hown (host := "") (Or.inl (hw _ (List.mem_of_getElem? (i := 27) rfl))) Via.refl e4 Fc2 (g := (mkF m 30 #[.val (.ref s1), .val (.ref s2), .val (.ref s2)] [(.ref s2), (.int (0 : Int32))])) rfl rfl (hb hby own_d12_30)
  obtain ⟨T6, X6, e6, st6⟩ := getF X5 hx hZ hown (host := "") (Or.inl (hw _ (List.mem_of_getElem? (i := 29) rfl))) Via.refl e5 Fv1 (g := (mkF m 37 #[.val (.ref s1), .val (.ref s2), .val (.ref s2)] [(.ref s1)])) rfl rfl (hb hby own_d12_37)
  obtain ⟨T7, X7, e7, st7⟩ := getF X6 hx hZ hown (host := "") (Or.inl (hw _ (List.mem_of_getElem? (i := 29) rfl))) Via.refl e6 Fv2 (g := (mkF m 41 #[.val (.ref s1), .val (.ref s2), .val (.ref s2)] [(.ref s2), (.ref b1)])) rfl rfl (hb hby own_d12_41)
  obtain ⟨_, _, ⟨T8, L8, k8, n8⟩, -, X8, ⟨Lc8, hQ8, l8, y8, z8⟩, st8⟩ := Jvm.LawKit.callS X7 hx (y := (⟨"java/lang/StringLatin1", "equals", "([B[B)Z"⟩ : MethodName)) hown (mvT hZ (hw _ (List.mem_of_getElem? (i := 74) rfl))) (mvT hZ (hw _ (List.mem_of_getElem? (i := 75) rfl))) (mvT hZ (hw _ (List.mem_of_getElem? (i := 76) rfl))) (mvT hZ (hw _ (List.mem_of_getElem? (i := 77) rfl))) (by decide) (backOf (W := 0) (own_leq22 l Z a0 hw [] b1 b2 k1 k2 x1 x2 y1 y2 h0 n0 Z0 V1 V2) hZ (hw _ (List.mem_of_getElem? (i := 77) rfl)) (hw _ (List.mem_of_getElem? (i := 76) rfl)) (by decide) (by decide)) (g := (mkF m 44 #[.val (.ref s1), .val (.ref s2), .val (.ref s2)] [(.ref b2), (.ref b1)])) rfl (by rw [hml]; rfl) (argsL := [(.ref b1), (.ref b2)]) (rest := []) (lenOf own_pd7 rfl) rfl (by show 2 * 0 + _ ≤ _; exact Nat.le_of_eq rfl) (hb hby own_d12_44) (fun _ _ => ⟨rfl, e7, (by decide : 0 + 0 ≤ _), (by decide : 0 + 0 ≤ _)⟩)
  dsimp only [Pt.U, Pt.locs, Pt.cells, Pt.slots] at X8 l8 y8 z8 st8 hQ8
  subst l8 y8 z8
  obtain ⟨rfl, N8q, e8⟩ := hQ8
  have N8 := Fr.app N0 N8q
  have pre9 : ∀ t, Steps p.tables e below (T8.setTop (mkF m 47 #[.val (.ref s1), .val (.ref s2), .val (.ref s2)] [(.int (if (x1 = y1 ∧ x2 = y2) then (1 : Int32) else (0 : Int32)))])) t → Steps p.tables e below (s₁.setTop (entryFrame m #[(.ref s1), (.ref s2)] 3)) t := fun t k => pre0 t (by
    show Steps p.tables e below (s₁.setTop (mkF m 0 #[.val (.ref s1), .val (.ref s2), .unset] [])) _
    refine XS.aloadN X0.here hx rfl (hb hby own_d12_0) rfl rfl ?_
    show Steps p.tables e below (s₁.setTop (mkF m 1 #[.val (.ref s1), .val (.ref s2), .unset] [(.ref s1)])) _
    refine XS.aloadN X0.here hx rfl (hb hby own_d12_1) rfl rfl ?_
    show Steps p.tables e below (s₁.setTop (mkF m 2 #[.val (.ref s1), .val (.ref s2), .unset] [(.ref s2), (.ref s1)])) _
    refine Jvm.RoadKit.acmp (g := (mkF m 2 #[.val (.ref s1), .val (.ref s2), .unset] [(.ref s2), (.ref s1)])) X0 hx rfl rfl rfl (pc0 := 2) (pc' := 7) (same := false) rfl (hb hby own_d12_2) rfl (decide_eq_false fun q => ne1 (Value.ref.inj q)) (by decide) (by decide) ?_
    show Steps p.tables e below (s₁.setTop (mkF m 7 #[.val (.ref s1), .val (.ref s2), .unset] [])) _
    refine XS.aloadN X0.here hx rfl (hb hby own_d12_7) rfl rfl ?_
    show Steps p.tables e below (s₁.setTop (mkF m 8 #[.val (.ref s1), .val (.ref s2), .unset] [(.ref s2)])) _
    refine st1 _ ?_
    show Steps p.tables e below (T1.setTop (mkF m 11 #[.val (.ref s1), .val (.ref s2), .unset] [(.int (1 : Int32))])) _
    refine XS.ifNo X1.here hx rfl (hb hby own_d12_11) rfl ((if0 _ _).trans (feq (by decide : ¬ ((1 : Int32) = (0 : Int32)))).1) ?_
    show Steps p.tables e below (T1.setTop (mkF m 14 #[.val (.ref s1), .val (.ref s2), .unset] [])) _
    refine XS.aloadN X1.here hx rfl (hb hby own_d12_14) rfl rfl ?_
    show Steps p.tables e below (T1.setTop (mkF m 15 #[.val (.ref s1), .val (.ref s2), .unset] [(.ref s2)])) _
    refine st2 _ ?_
    show Steps p.tables e below (T2.setTop (mkF m 18 #[.val (.ref s1), .val (.ref s2), .unset] [(.ref s2)])) _
    refine XS.astoreN X2.here hx rfl (hb hby own_d12_18) rfl rfl (l' := #[.val (.ref s1), .val (.ref s2), .val (.ref s2)]) rfl ?_
    show Steps p.tables e below (T2.setTop (mkF m 19 #[.val (.ref s1), .val (.ref s2), .val (.ref s2)] [])) _
    refine st3 _ ?_
    show Steps p.tables e below (T3.setTop (mkF m 22 #[.val (.ref s1), .val (.ref s2), .val (.ref s2)] [(.int cz)])) _
    refine XS.ifNo X3.here hx rfl (hb hby own_d12_22) rfl ((if0 _ _).trans (feq hcz).1) ?_
    show Steps p.tables e below (T3.setTop (mkF m 25 #[.val (.ref s1), .val (.ref s2), .val (.ref s2)] [])) _
    refine XS.aloadN X3.here hx rfl (hb hby own_d12_25) rfl rfl ?_
    show Steps p.tables e below (T3.setTop (mkF m 26 #[.val (.ref s1), .val (.ref s2), .val (.ref s2)] [(.ref s1)])) _
    refine st4 _ ?_
    show Steps p.tables e below (T4.setTop (mkF m 29 #[.val (.ref s1), .val (.ref s2), .val (.ref s2)] [(.int (0 : Int32))])) _
    refine XS.aloadN X4.here hx rfl (hb hby own_d12_29) rfl rfl ?_
    show Steps p.tables e below (T4.setTop (mkF m 30 #[.val (.ref s1), .val (.ref s2), .val (.ref s2)] [(.ref s2), (.int (0 : Int32))])) _
    refine st5 _ ?_
    show Steps p.tables e below (T5.setTop (mkF m 33 #[.val (.ref s1), .val (.ref s2), .val (.ref s2)] [(.int (0 : Int32)), (.int (0 : Int32))])) _
    refine XS.icmpNo X5.here hx rfl (hb hby own_d12_33) rfl (teq (by decide : (0 : Int32) = (0 : Int32))).2 ?_
    show Steps p.tables e below (T5.setTop (mkF m 36 #[.val (.ref s1), .val (.ref s2), .val (.ref s2)] [])) _
    refine XS.aloadN X5.here hx rfl (hb hby own_d12_36) rfl rfl ?_
    show Steps p.tables e below (T5.setTop (mkF m 37 #[.val (.ref s1), .val (.ref s2), .val (.ref s2)] [(.ref s1)])) _
    refine st6 _ ?_
    show Steps p.tables e below (T6.setTop (mkF m 40 #[.val (.ref s1), .val (.ref s2), .val (.ref s2)] [(.ref b1)])) _
    refine XS.aloadN X6.here hx rfl (hb hby own_d12_40) rfl rfl ?_
    show Steps p.tables e below (T6.setTop (mkF m 41 #[.val (.ref s1), .val (.ref s2), .val (.ref s2)] [(.ref s2), (.ref b1)])) _
    refine st7 _ ?_
    show Steps p.tables e below (T7.setTop (mkF m 44 #[.val (.ref s1), .val (.ref s2), .val (.ref s2)] [(.ref b2), (.ref b1)])) _
    refine st8 _ ?_
    show Steps p.tables e below (T8.setTop (mkF m 47 #[.val (.ref s1), .val (.ref s2), .val (.ref s2)] [(.int (if (x1 = y1 ∧ x2 = y2) then (1 : Int32) else (0 : Int32)))])) _
    exact k)
  by_cases hc10 : (x1 = y1 ∧ x2 = y2)
  · skip
    obtain ⟨fs, hr, hrun, hended, hW, hsame⟩ := X8.leave (v := some (.int (1 : Int32))) (fun h => by rw [Bd.returns] at h; cases h)
    refine ⟨_, _, pre9 _ ?_, hrun, hended, _, _, rfl, ?_, ⟨_, rfl⟩, hW, hsame.mono (by decide) (by decide)⟩
    · refine XS.ifNo X8.here hx rfl (hb hby own_d12_47) rfl ((if0 _ _).trans (feq (fun q => absurd ((if_pos hc10).symm.trans q) (by decide))).1) ?_
      show Steps p.tables e below (T8.setTop (mkF m 50 #[.val (.ref s1), .val (.ref s2), .val (.ref s2)] [])) _
      refine XS.iconst X8.here hx rfl (hb hby own_d12_50) ?_
      show Steps p.tables e below (T8.setTop (mkF m 51 #[.val (.ref s1), .val (.ref s2), .val (.ref s2)] [(.int (1 : Int32))])) _
      refine XS.goto X8.here hx rfl (pc0 := 51) (pc' := 55) rfl (hb hby own_d12_51) (by decide) (by decide) ?_
      show Steps p.tables e below (T8.setTop (mkF m 55 #[.val (.ref s1), .val (.ref s2), .val (.ref s2)] [(.int (1 : Int32))])) _
      exact retN X8 hx (t := .boolean) Bd.returns (by simp) (hb hby own_d12_55) hr
    · show own_Q_own_seq22 Z s1 s2 b1 b2 k1 k2 cz x1 x2 y1 y2 h0 n0 _ T8.heap _
      rw [e8]
      exact ⟨by simp [hc10], N8, rfl⟩
  · skip
    obtain ⟨fs, hr, hrun, hended, hW, hsame⟩ := X8.leave (v := some (.int (0 : Int32))) (fun h => by rw [Bd.returns] at h; cases h)
    refine ⟨_, _, pre9 _ ?_, hrun, hended, _, _, rfl, ?_, ⟨_, rfl⟩, hW, hsame.mono (by decide) (by decide)⟩
    · refine XS.ifYes X8.here hx rfl (pc0 := 47) (pc' := 54) rfl (hb hby own_d12_47) rfl ((if0 _ _).trans (teq (if_neg hc10)).1) (by decide) (by decide) ?_
      show Steps p.tables e below (T8.setTop (mkF m 54 #[.val (.ref s1), .val (.ref s2), .val (.ref s2)] [])) _
      refine XS.iconst X8.here hx rfl (hb hby own_d12_54) ?_
      show Steps p.tables e below (T8.setTop (mkF m 55 #[.val (.ref s1), .val (.ref s2), .val (.ref s2)] [(.int (0 : Int32))])) _
      exact retN X8 hx (t := .boolean) Bd.returns (by simp) (hb hby own_d12_55) hr
    · show own_Q_own_seq22 Z s1 s2 b1 b2 k1 k2 cz x1 x2 y1 y2 h0 n0 _ T8.heap _
      rw [e8]
      exact ⟨by simp [hc10], N8, rfl⟩
def own_Q_own_teq22 (Z : State) (t1 : Addr) (t2 : Addr) (s1 : Addr) (s2 : Addr) (w1 : Int32) (w2 : Int32) (b1 : Addr) (b2 : Addr) (k1 : ClassId) (k2 : ClassId) (cz : Int32) (x1 : Int32) (x2 : Int32) (y1 : Int32) (y2 : Int32) (h0 : Heap) (n0 : Nat) (v : Option Value) (h : Heap) (L : List Loc) : Prop := v = some (.int (if w1 = w2 ∧ (x1 = y1 ∧ x2 = y2) then (1 : Int32) else (0 : Int32))) ∧ Fr n0 L ∧ h = h0
set_option maxRecDepth 65536 in
set_option maxHeartbeats 40000000 in
theorem own_teq22 (l : Launch) (Z : State) (a0 : Array Value) (hw : ∀ d ∈ tables_1, d.before a0 Z = true) (ws : List Jvm.Cond) (t1 : Addr) (t2 : Addr) (s1 : Addr) (s2 : Addr) (w1 : Int32) (w2 : Int32) (b1 : Addr) (b2 : Addr) (k1 : ClassId) (k2 : ClassId) (cz : Int32) (x1 : Int32) (x2 : Int32) (y1 : Int32) (y2 : Int32) (h0 : Heap) (n0 : Nat) (Z0 : n0 ≤ h0.size) (Et : Exa Z h0 t2 "com/example/vigilant_consumer/vigilantconsumer/TopicPartition") (Fat : Fld Z h0 t1 "com/example/vigilant_consumer/vigilantconsumer/TopicPartition" "topic" "Ljava/lang/String;" (.ref s1)) (Fap : Fld Z h0 t1 "com/example/vigilant_consumer/vigilantconsumer/TopicPartition" "partition" "I" (.int w1)) (Fbt : Fld Z h0 t2 "com/example/vigilant_consumer/vigilantconsumer/TopicPartition" "topic" "Ljava/lang/String;" (.ref s2)) (Fbp : Fld Z h0 t2 "com/example/vigilant_consumer/vigilantconsumer/TopicPartition" "partition" "I" (.int w2)) (E1 : Exa Z h0 s1 "java/lang/String") (Fc1 : Fld Z h0 s1 "java/lang/String" "coder" "B" (.int (0 : Int32))) (Fv1 : Fld Z h0 s1 "java/lang/String" "value" "[B" (.ref b1)) (V1 : Arv Z h0 b1 k1 .byte (2 : Int32) [(.int x1), (.int x2)] (.int (0 : Int32))) (E2 : Exa Z h0 s2 "java/lang/String") (Fc2 : Fld Z h0 s2 "java/lang/String" "coder" "B" (.int (0 : Int32))) (Fv2 : Fld Z h0 s2 "java/lang/String" "value" "[B" (.ref b2)) (V2 : Arv Z h0 b2 k2 .byte (2 : Int32) [(.int y1), (.int y2)] (.int (0 : Int32))) (ne1 : s1 ≠ s2) (S : Sta Z h0 "java/lang/String" "COMPACT_STRINGS" "Z" (.int cz)) (hcz : ¬ (cz = (0 : Int32))) :
    MetFree l (⟨"com/example/vigilant_consumer/vigilantconsumer/TopicPartition", "equals", "(Ljava/lang/Object;)Z"⟩ : MethodName) (head1 (Jvm.Cond.code (⟨"com/example/vigilant_consumer/vigilantconsumer/TopicPartition", "equals", "(Ljava/lang/Object;)Z"⟩ : MethodName) prog_59_method_2_code 3 (some .boolean) :: ws) ({ frames := 2, cells := 0, slots := 0, locals := 28 } : Room)) (fun as_ U => as_ = #[(.ref t1), (.ref t2)] ∧ Z.Warmed39 U.vm ∧ U.heap = h0) (fun _ _ _ _ _ => True) (fun _ U o U' => ∃ v L, o = .returned v ∧ own_Q_own_teq22 Z t1 t2 s1 s2 w1 w2 b1 b2 k1 k2 cz x1 x2 y1 y2 h0 n0 v U'.heap L ∧ FrameEnd U o U' L ({ frames := 2, cells := 0, slots := 0, locals := 28 } : Room).cells ({ frames := 2, cells := 0, slots := 0, locals := 28 } : Room).slots) := by
  refine MetFree.of_bodySF (plainFor_of_name own_pn4) hisR ?_
  intro p e s m args below meth c s₁ Bd hml0 hP hK
  obtain ⟨rfl, hZ, hh⟩ := hP
  have hx := Bd.exec
  have hby := Bd.bytes
  have hml : c.maxLocals = 3 := hml0
  have hown : s.vm.findClass "com/example/vigilant_consumer/vigilantconsumer/TopicPartition" = some m.cls := findClass_of_methodNamed Bd.named
  have hnm := (name_of_methodNamed Bd.named Bd.method).1
  have X0 : Stand p l e ({ frames := 2, cells := 0, slots := 0, locals := 28 } : Room) s m #[(.ref t1), (.ref t2)] below meth c s₁ [] 0 0 := Stand.of_body Bd
  have e0 : s₁.heap = h0 := by rw [← hh, Bd.state]; rfl
  have N0 := Fr.nil n0
  have pre0 : ∀ t, Steps p.tables e below (s₁.setTop (mkF m 0 #[.val (.ref t1), .val (.ref t2), .unset] [])) t → Steps p.tables e below (s₁.setTop (entryFrame m #[(.ref t1), (.ref t2)] 3)) t := fun t k => castTop (own_ef11 m t1 t2) k
  obtain ⟨T1, X1, e1, st1⟩ := instY X0 hx hZ hown (hw _ (List.mem_of_getElem? (i := 64) rfl)) e0 (Ins.self Et) (g := (mkF m 1 #[.val (.ref t1), .val (.ref t2), .unset] [(.ref t2)])) rfl rfl (hb hby own_d11_1)
  obtain ⟨T2, X2, e2, st2⟩ := castY X1 hx hZ hown (hw _ (List.mem_of_getElem? (i := 64) rfl)) e1 (Ins.self Et) (g := (mkF m 8 #[.val (.ref t1), .val (.ref t2), .unset] [(.ref t2)])) rfl rfl (hb hby own_d11_8)
  obtain ⟨T3, X3, e3, st3⟩ := getF X2 hx hZ hown (host := "") (Or.inl (hw _ (List.mem_of_getElem? (i := 57) rfl))) Via.refl e2 Fap (g := (mkF m 13 #[.val (.ref t1), .val (.ref t2), .val (.ref t2)] [(.ref t1)])) rfl rfl (hb hby own_d11_13)
  obtain ⟨T4, X4, e4, st4⟩ := getF X3 hx hZ hown (host := "") (Or.inl (hw _ (List.mem_of_getElem? (i := 57) rfl))) Via.refl e3 Fbp (g := (mkF m 17 #[.val (.ref t1), .val (.ref t2), .val (.ref t2)] [(.ref t2), (.int w1)])) rfl rfl (hb hby own_d11_17)
  have pre5 : ∀ t, Steps p.tables e below (T4.setTop (mkF m 20 #[.val (.ref t1), .val (.ref t2), .val (.ref t2)] [(.int w2), (.int w1)])) t → Steps p.tables e below (s₁.setTop (entryFrame m #[(.ref t1), (.ref t2)] 3)) t := fun t k => pre0 t (by
    show Steps p.tables e below (s₁.setTop (mkF m 0 #[.val (.ref t1), .val (.ref t2), .unset] [])) _
    refine XS.aloadN X0.here hx rfl (hb hby own_d11_0) rfl rfl ?_
    show Steps p.tables e below (s₁.setTop (mkF m 1 #[.val (.ref t1), .val (.ref t2), .unset] [(.ref t2)])) _
    refine st1 _ ?_
    show Steps p.tables e below (T1.setTop (mkF m 4 #[.val (.ref t1), .val (.ref t2), .unset] [(.int (1 : Int32))])) _
    refine XS.ifNo X1.here hx rfl (hb hby own_d11_4) rfl ((if0 _ _).trans (feq (by decide : ¬ ((1 : Int32) = (0 : Int32)))).1) ?_
    show Steps p.tables e below (T1.setTop (mkF m 7 #[.val (.ref t1), .val (.ref t2), .unset] [])) _
    refine XS.aloadN X1.here hx rfl (hb hby own_d11_7) rfl rfl ?_
    show Steps p.tables e below (T1.setTop (mkF m 8 #[.val (.ref t1), .val (.ref t2), .unset] [(.ref t2)])) _
    refine st2 _ ?_
    show Steps p.tables e below (T2.setTop (mkF m 11 #[.val (.ref t1), .val (.ref t2), .unset] [(.ref t2)])) _
    refine XS.astoreN X2.here hx rfl (hb hby own_d11_11) rfl rfl (l' := #[.val (.ref t1), .val (.ref t2), .val (.ref t2)]) rfl ?_
    show Steps p.tables e below (T2.setTop (mkF m 12 #[.val (.ref t1), .val (.ref t2), .val (.ref t2)] [])) _
    refine XS.aloadN X2.here hx rfl (hb hby own_d11_12) rfl rfl ?_
    show Steps p.tables e below (T2.setTop (mkF m 13 #[.val (.ref t1), .val (.ref t2), .val (.ref t2)] [(.ref t1)])) _
    refine st3 _ ?_
    show Steps p.tables e below (T3.setTop (mkF m 16 #[.val (.ref t1), .val (.ref t2), .val (.ref t2)] [(.int w1)])) _
    refine XS.aloadN X3.here hx rfl (hb hby own_d11_16) rfl rfl ?_
    show Steps p.tables e below (T3.setTop (mkF m 17 #[.val (.ref t1), .val (.ref t2), .val (.ref t2)] [(.ref t2), (.int w1)])) _
    refine st4 _ ?_
    show Steps p.tables e below (T4.setTop (mkF m 20 #[.val (.ref t1), .val (.ref t2), .val (.ref t2)] [(.int w2), (.int w1)])) _
    exact k)
  by_cases hc6 : w1 = w2
  · skip
    obtain ⟨T7, X7, e7, st7⟩ := getF X4 hx hZ hown (host := "") (Or.inl (hw _ (List.mem_of_getElem? (i := 55) rfl))) Via.refl e4 Fat (g := (mkF m 24 #[.val (.ref t1), .val (.ref t2), .val (.ref t2)] [(.ref t1)])) rfl rfl (hb hby own_d11_24)
    obtain ⟨T8, X8, e8, st8⟩ := getF X7 hx hZ hown (host := "") (Or.inl (hw _ (List.mem_of_getElem? (i := 55) rfl))) Via.refl e7 Fbt (g := (mkF m 28 #[.val (.ref t1), .val (.ref t2), .val (.ref t2)] [(.ref t2), (.ref s1)])) rfl rfl (hb hby own_d11_28)
    obtain ⟨cq9, kq9, q9a, q9b, q9c⟩ := isOf hZ e8 E1
    obtain ⟨_, _, ⟨T9, L9, k9, n9⟩, -, X9, ⟨Lc9, hQ9, l9, y9, z9⟩, st9⟩ := X8.virtualBack hx (y := (⟨"java/lang/String", "equals", "(Ljava/lang/Object;)Z"⟩ : MethodName)) (z := (⟨"java/lang/String", "equals", "(Ljava/lang/Object;)Z"⟩ : MethodName)) hown (mvT hZ (hw _ (List.mem_of_getElem? (i := 68) rfl))) (mvT hZ (hw _ (List.mem_of_getElem? (i := 69) rfl))) (notFace_of_selects (args := #[]) (mvT hZ (hw _ (List.mem_of_getElem? (i := 71) rfl)))) (mvT hZ (hw _ (List.mem_of_getElem? (i := 71) rfl))) (mvT hZ (hw _ (List.mem_of_getElem? (i := 70) rfl))) (by decide) (backOf (W := 0) (own_seq22 l Z a0 hw [] s1 s2 b1 b2 k1 k2 cz x1 x2 y1 y2 h0 n0 Z0 E1 Fc1 Fv1 V1 E2 Fc2 Fv2 V2 ne1 S hcz) hZ (hw _ (List.mem_of_getElem? (i := 72) rfl)) (hw _ (List.mem_of_getElem? (i := 3) rfl)) (by decide) (by decide)) q9a q9c (g := (mkF m 31 #[.val (.ref t1), .val (.ref t2), .val (.ref t2)] [(.ref s2), (.ref s1)])) rfl (by rw [hml]; rfl) (Steps.refl _) (argsL := [(.ref s2)]) (rest := []) (lenOf own_pd8 rfl) rfl (by show 2 * 0 + _ ≤ _; exact Nat.le_of_eq rfl) (hb hby own_d11_31) (fun _ _ => ⟨rfl, e8, (by decide : 0 + 0 ≤ _), (by decide : 0 + 0 ≤ _)⟩)
    dsimp only [Pt.U, Pt.locs, Pt.cells, Pt.slots] at X9 l9 y9 z9 st9 hQ9
    subst l9 y9 z9
    obtain ⟨rfl, N9q, e9⟩ := hQ9
    have N9 := Fr.app N0 N9q
    have pre10 : ∀ t, Steps p.tables e below (T9.setTop (mkF m 34 #[.val (.ref t1), .val (.ref t2), .val (.ref t2)] [(.int (if (x1 = y1 ∧ x2 = y2) then (1 : Int32) else (0 : Int32)))])) t → Steps p.tables e below (s₁.setTop (entryFrame m #[(.ref t1), (.ref t2)] 3)) t := fun t k => pre5 t (by
      refine XS.icmpNo X4.here hx rfl (hb hby own_d11_20) rfl (teq hc6).2 ?_
      show Steps p.tables e below (T4.setTop (mkF m 23 #[.val (.ref t1), .val (.ref t2), .val (.ref t2)] [])) _
      refine XS.aloadN X4.here hx rfl (hb hby own_d11_23) rfl rfl ?_
      show Steps p.tables e below (T4.setTop (mkF m 24 #[.val (.ref t1), .val (.ref t2), .val (.ref t2)] [(.ref t1)])) _
      refine st7 _ ?_
      show Steps p.tables e below (T7.setTop (mkF m 27 #[.val (.ref t1), .val (.ref t2), .val (.ref t2)] [(.ref s1)])) _
      refine XS.aloadN X7.here hx rfl (hb hby own_d11_27) rfl rfl ?_
      show Steps p.tables e below (T7.setTop (mkF m 28 #[.val (.ref t1), .val (.ref t2), .val (.ref t2)] [(.ref t2), (.ref s1)])) _
      refine st8 _ ?_
      show Steps p.tables e below (T8.setTop (mkF m 31 #[.val (.ref t1), .val (.ref t2), .val (.ref t2)] [(.ref s2), (.ref s1)])) _
      refine st9.trans ?_
      show Steps p.tables e below (T9.setTop (mkF m 34 #[.val (.ref t1), .val (.ref t2), .val (.ref t2)] [(.int (if (x1 = y1 ∧ x2 = y2) then (1 : Int32) else (0 : Int32)))])) _
      exact k)
    by_cases hc11 : (x1 = y1 ∧ x2 = y2)
    · skip
      obtain ⟨fs, hr, hrun, hended, hW, hsame⟩ := X9.leave (v := some (.int (1 : Int32))) (fun h => by rw [Bd.returns] at h; cases h)
      refine ⟨_, _, pre10 _ ?_, hrun, hended, _, _, rfl, ?_, ⟨_, rfl⟩, hW, hsame.mono (by decide) (by decide)⟩
      · refine XS.ifNo X9.here hx rfl (hb hby own_d11_34) rfl ((if0 _ _).trans (feq (fun q => absurd ((if_pos hc11).symm.trans q) (by decide))).1) ?_
        show Steps p.tables e below (T9.setTop (mkF m 37 #[.val (.ref t1), .val (.ref t2), .val (.ref t2)] [])) _
        refine XS.iconst X9.here hx rfl (hb hby own_d11_37) ?_
        show Steps p.tables e below (T9.setTop (mkF m 38 #[.val (.ref t1), .val (.ref t2), .val (.ref t2)] [(.int (1 : Int32))])) _
        refine XS.goto X9.here hx rfl (pc0 := 38) (pc' := 42) rfl (hb hby own_d11_38) (by decide) (by decide) ?_
        show Steps p.tables e below (T9.setTop (mkF m 42 #[.val (.ref t1), .val (.ref t2), .val (.ref t2)] [(.int (1 : Int32))])) _
        exact retN X9 hx (t := .boolean) Bd.returns (by simp) (hb hby own_d11_42) hr
      · show own_Q_own_teq22 Z t1 t2 s1 s2 w1 w2 b1 b2 k1 k2 cz x1 x2 y1 y2 h0 n0 _ T9.heap _
        rw [e9]
        exact ⟨by simp [hc6, hc11], N9, rfl⟩
    · skip
      obtain ⟨fs, hr, hrun, hended, hW, hsame⟩ := X9.leave (v := some (.int (0 : Int32))) (fun h => by rw [Bd.returns] at h; cases h)
      refine ⟨_, _, pre10 _ ?_, hrun, hended, _, _, rfl, ?_, ⟨_, rfl⟩, hW, hsame.mono (by decide) (by decide)⟩
      · refine XS.ifYes X9.here hx rfl (pc0 := 34) (pc' := 41) rfl (hb hby own_d11_34) rfl ((if0 _ _).trans (teq (if_neg hc11)).1) (by decide) (by decide) ?_
        show Steps p.tables e below (T9.setTop (mkF m 41 #[.val (.ref t1), .val (.ref t2), .val (.ref t2)] [])) _
        refine XS.iconst X9.here hx rfl (hb hby own_d11_41) ?_
        show Steps p.tables e below (T9.setTop (mkF m 42 #[.val (.ref t1), .val (.ref t2), .val (.ref t2)] [(.int (0 : Int32))])) _
        exact retN X9 hx (t := .boolean) Bd.returns (by simp) (hb hby own_d11_42) hr
      · show own_Q_own_teq22 Z t1 t2 s1 s2 w1 w2 b1 b2 k1 k2 cz x1 x2 y1 y2 h0 n0 _ T9.heap _
        rw [e9]
        exact ⟨by simp [hc6, hc11], N9, rfl⟩
  · skip
    obtain ⟨fs, hr, hrun, hended, hW, hsame⟩ := X4.leave (v := some (.int (0 : Int32))) (fun h => by rw [Bd.returns] at h; cases h)
    refine ⟨_, _, pre5 _ ?_, hrun, hended, _, _, rfl, ?_, ⟨_, rfl⟩, hW, hsame.mono (by decide) (by decide)⟩
    · refine XS.icmpYes X4.here hx rfl (pc0 := 20) (pc' := 41) rfl (hb hby own_d11_20) rfl (feq hc6).2 (by decide) (by decide) ?_
      show Steps p.tables e below (T4.setTop (mkF m 41 #[.val (.ref t1), .val (.ref t2), .val (.ref t2)] [])) _
      refine XS.iconst X4.here hx rfl (hb hby own_d11_41) ?_
      show Steps p.tables e below (T4.setTop (mkF m 42 #[.val (.ref t1), .val (.ref t2), .val (.ref t2)] [(.int (0 : Int32))])) _
      exact retN X4 hx (t := .boolean) Bd.returns (by simp) (hb hby own_d11_42) hr
    · show own_Q_own_teq22 Z t1 t2 s1 s2 w1 w2 b1 b2 k1 k2 cz x1 x2 y1 y2 h0 n0 _ T4.heap _
      rw [e4]
      exact ⟨by simp [hc6], N0, rfl⟩
theorem own_d12_5 : decode jdk_42_method_66_code 5 = .ok (.iconst 1, 1) := by decide +kernel
theorem own_d12_6 : decode jdk_42_method_66_code 6 = .ok (.ireturn, 1) := by decide +kernel
def own_Q_own_seqS (Z : State) (s1 : Addr) (s2 : Addr) (h0 : Heap) (n0 : Nat) (v : Option Value) (h : Heap) (L : List Loc) : Prop := v = some (.int 1) ∧ Fr n0 L ∧ h = h0
set_option maxRecDepth 65536 in
set_option maxHeartbeats 40000000 in
theorem own_seqS (l : Launch) (Z : State) (a0 : Array Value) (hw : ∀ d ∈ tables_1, d.before a0 Z = true) (ws : List Jvm.Cond) (s1 : Addr) (s2 : Addr) (h0 : Heap) (n0 : Nat) (Z0 : n0 ≤ h0.size) (hab : s1 = s2) :
    MetFree l (⟨"java/lang/String", "equals", "(Ljava/lang/Object;)Z"⟩ : MethodName) (head1 (Jvm.Cond.code (⟨"java/lang/String", "equals", "(Ljava/lang/Object;)Z"⟩ : MethodName) jdk_42_method_66_code 3 (some .boolean) :: ws) ({ frames := 0, cells := 0, slots := 0, locals := 0 } : Room)) (fun as_ U => as_ = #[(.ref s1), (.ref s2)] ∧ Z.Warmed39 U.vm ∧ U.heap = h0) (fun _ _ _ _ _ => True) (fun _ U o U' => ∃ v L, o = .returned v ∧ own_Q_own_seqS Z s1 s2 h0 n0 v U'.heap L ∧ FrameEnd U o U' L ({ frames := 0, cells := 0, slots := 0, locals := 0 } : Room).cells ({ frames := 0, cells := 0, slots := 0, locals := 0 } : Room).slots) := by
  refine MetFree.of_bodySF (plainFor_of_name own_pn1) hisR ?_
  intro p e s m args below meth c s₁ Bd hml0 hP hK
  obtain ⟨rfl, hZ, hh⟩ := hP
  have hx := Bd.exec
  have hby := Bd.bytes
  have hml : c.maxLocals = 3 := hml0
  have hown : s.vm.findClass "java/lang/String" = some m.cls := findClass_of_methodNamed Bd.named
  have hnm := (name_of_methodNamed Bd.named Bd.method).1
  have X0 : Stand p l e ({ frames := 0, cells := 0, slots := 0, locals := 0 } : Room) s m #[(.ref s1), (.ref s2)] below meth c s₁ [] 0 0 := Stand.of_body Bd
  have e0 : s₁.heap = h0 := by rw [← hh, Bd.state]; rfl
  have N0 := Fr.nil n0
  have pre0 : ∀ t, Steps p.tables e below (s₁.setTop (mkF m 0 #[.val (.ref s1), .val (.ref s2), .unset] [])) t → Steps p.tables e below (s₁.setTop (entryFrame m #[(.ref s1), (.ref s2)] 3)) t := fun t k => castTop (own_ef12 m s1 s2) k
  obtain ⟨fs, hr, hrun, hended, hW, hsame⟩ := X0.leave (v := some (.int (1 : Int32))) (fun h => by rw [Bd.returns] at h; cases h)
  refine ⟨_, _, pre0 _ ?_, hrun, hended, _, _, rfl, ?_, ⟨_, rfl⟩, hW, hsame.mono (by decide) (by decide)⟩
  · show Steps p.tables e below (s₁.setTop (mkF m 0 #[.val (.ref s1), .val (.ref s2), .unset] [])) _
    refine XS.aloadN X0.here hx rfl (hb hby own_d12_0) rfl rfl ?_
    show Steps p.tables e below (s₁.setTop (mkF m 1 #[.val (.ref s1), .val (.ref s2), .unset] [(.ref s1)])) _
    refine XS.aloadN X0.here hx rfl (hb hby own_d12_1) rfl rfl ?_
    show Steps p.tables e below (s₁.setTop (mkF m 2 #[.val (.ref s1), .val (.ref s2), .unset] [(.ref s2), (.ref s1)])) _
    refine Jvm.RoadKit.acmp (g := (mkF m 2 #[.val (.ref s1), .val (.ref s2), .unset] [(.ref s2), (.ref s1)])) X0 hx rfl rfl rfl (pc0 := 2) (pc' := 5) (same := true) rfl (hb hby own_d12_2) rfl (decide_eq_true (congrArg Value.ref hab)) (by decide) (by decide) ?_
    show Steps p.tables e below (s₁.setTop (mkF m 5 #[.val (.ref s1), .val (.ref s2), .unset] [])) _
    refine XS.iconst X0.here hx rfl (hb hby own_d12_5) ?_
    show Steps p.tables e below (s₁.setTop (mkF m 6 #[.val (.ref s1), .val (.ref s2), .unset] [(.int (1 : Int32))])) _
    exact retN X0 hx (t := .boolean) Bd.returns (by simp) (hb hby own_d12_6) hr
  · show own_Q_own_seqS Z s1 s2 h0 n0 _ s₁.heap _
    rw [e0]
    exact ⟨rfl, N0, rfl⟩
def own_Q_own_teqS (Z : State) (t1 : Addr) (t2 : Addr) (s1 : Addr) (w1 : Int32) (h0 : Heap) (n0 : Nat) (v : Option Value) (h : Heap) (L : List Loc) : Prop := v = some (.int 1) ∧ Fr n0 L ∧ h = h0
set_option maxRecDepth 65536 in
set_option maxHeartbeats 40000000 in
theorem own_teqS (l : Launch) (Z : State) (a0 : Array Value) (hw : ∀ d ∈ tables_1, d.before a0 Z = true) (ws : List Jvm.Cond) (t1 : Addr) (t2 : Addr) (s1 : Addr) (w1 : Int32) (h0 : Heap) (n0 : Nat) (Z0 : n0 ≤ h0.size) (Et : Exa Z h0 t2 "com/example/vigilant_consumer/vigilantconsumer/TopicPartition") (Fat : Fld Z h0 t1 "com/example/vigilant_consumer/vigilantconsumer/TopicPartition" "topic" "Ljava/lang/String;" (.ref s1)) (Fap : Fld Z h0 t1 "com/example/vigilant_consumer/vigilantconsumer/TopicPartition" "partition" "I" (.int w1)) (Fbt : Fld Z h0 t2 "com/example/vigilant_consumer/vigilantconsumer/TopicPartition" "topic" "Ljava/lang/String;" (.ref s1)) (Fbp : Fld Z h0 t2 "com/example/vigilant_consumer/vigilantconsumer/TopicPartition" "partition" "I" (.int w1)) (E1 : Exa Z h0 s1 "java/lang/String") :
    MetFree l (⟨"com/example/vigilant_consumer/vigilantconsumer/TopicPartition", "equals", "(Ljava/lang/Object;)Z"⟩ : MethodName) (head1 (Jvm.Cond.code (⟨"com/example/vigilant_consumer/vigilantconsumer/TopicPartition", "equals", "(Ljava/lang/Object;)Z"⟩ : MethodName) prog_59_method_2_code 3 (some .boolean) :: ws) ({ frames := 1, cells := 0, slots := 0, locals := 14 } : Room)) (fun as_ U => as_ = #[(.ref t1), (.ref t2)] ∧ Z.Warmed39 U.vm ∧ U.heap = h0) (fun _ _ _ _ _ => True) (fun _ U o U' => ∃ v L, o = .returned v ∧ own_Q_own_teqS Z t1 t2 s1 w1 h0 n0 v U'.heap L ∧ FrameEnd U o U' L ({ frames := 1, cells := 0, slots := 0, locals := 14 } : Room).cells ({ frames := 1, cells := 0, slots := 0, locals := 14 } : Room).slots) := by
  refine MetFree.of_bodySF (plainFor_of_name own_pn4) hisR ?_
  intro p e s m args below meth c s₁ Bd hml0 hP hK
  obtain ⟨rfl, hZ, hh⟩ := hP
  have hx := Bd.exec
  have hby := Bd.bytes
  have hml : c.maxLocals = 3 := hml0
  have hown : s.vm.findClass "com/example/vigilant_consumer/vigilantconsumer/TopicPartition" = some m.cls := findClass_of_methodNamed Bd.named
  have hnm := (name_of_methodNamed Bd.named Bd.method).1
  have X0 : Stand p l e ({ frames := 1, cells := 0, slots := 0, locals := 14 } : Room) s m #[(.ref t1), (.ref t2)] below meth c s₁ [] 0 0 := Stand.of_body Bd
  have e0 : s₁.heap = h0 := by rw [← hh, Bd.state]; rfl
  have N0 := Fr.nil n0
  have pre0 : ∀ t, Steps p.tables e below (s₁.setTop (mkF m 0 #[.val (.ref t1), .val (.ref t2), .unset] [])) t → Steps p.tables e below (s₁.setTop (entryFrame m #[(.ref t1), (.ref t2)] 3)) t := fun t k => castTop (own_ef11 m t1 t2) k
  obtain ⟨T1, X1, e1, st1⟩ := instY X0 hx hZ hown (hw _ (List.mem_of_getElem? (i := 64) rfl)) e0 (Ins.self Et) (g := (mkF m 1 #[.val (.ref t1), .val (.ref t2), .unset] [(.ref t2)])) rfl rfl (hb hby own_d11_1)
  obtain ⟨T2, X2, e2, st2⟩ := castY X1 hx hZ hown (hw _ (List.mem_of_getElem? (i := 64) rfl)) e1 (Ins.self Et) (g := (mkF m 8 #[.val (.ref t1), .val (.ref t2), .unset] [(.ref t2)])) rfl rfl (hb hby own_d11_8)
  obtain ⟨T3, X3, e3, st3⟩ := getF X2 hx hZ hown (host := "") (Or.inl (hw _ (List.mem_of_getElem? (i := 57) rfl))) Via.refl e2 Fap (g := (mkF m 13 #[.val (.ref t1), .val (.ref t2), .val (.ref t2)] [(.ref t1)])) rfl rfl (hb hby own_d11_13)
  obtain ⟨T4, X4, e4, st4⟩ := getF X3 hx hZ hown (host := "") (Or.inl (hw _ (List.mem_of_getElem? (i := 57) rfl))) Via.refl e3 Fbp (g := (mkF m 17 #[.val (.ref t1), .val (.ref t2), .val (.ref t2)] [(.ref t2), (.int w1)])) rfl rfl (hb hby own_d11_17)
  obtain ⟨T5, X5, e5, st5⟩ := getF X4 hx hZ hown (host := "") (Or.inl (hw _ (List.mem_of_getElem? (i := 55) rfl))) Via.refl e4 Fat (g := (mkF m 24 #[.val (.ref t1), .val (.ref t2), .val (.ref t2)] [(.ref t1)])) rfl rfl (hb hby own_d11_24)
  obtain ⟨T6, X6, e6, st6⟩ := getF X5 hx hZ hown (host := "") (Or.inl (hw _ (List.mem_of_getElem? (i := 55) rfl))) Via.refl e5 Fbt (g := (mkF m 28 #[.val (.ref t1), .val (.ref t2), .val (.ref t2)] [(.ref t2), (.ref s1)])) rfl rfl (hb hby own_d11_28)
  obtain ⟨cq7, kq7, q7a, q7b, q7c⟩ := isOf hZ e6 E1
  obtain ⟨_, _, ⟨T7, L7, k7, n7⟩, -, X7, ⟨Lc7, hQ7, l7, y7, z7⟩, st7⟩ := X6.virtualBack hx (y := (⟨"java/lang/String", "equals", "(Ljava/lang/Object;)Z"⟩ : MethodName)) (z := (⟨"java/lang/String", "equals", "(Ljava/lang/Object;)Z"⟩ : MethodName)) hown (mvT hZ (hw _ (List.mem_of_getElem? (i := 68) rfl))) (mvT hZ (hw _ (List.mem_of_getElem? (i := 69) rfl))) (notFace_of_selects (args := #[]) (mvT hZ (hw _ (List.mem_of_getElem? (i := 71) rfl)))) (mvT hZ (hw _ (List.mem_of_getElem? (i := 71) rfl))) (mvT hZ (hw _ (List.mem_of_getElem? (i := 70) rfl))) (by decide) (backOf (W := 0) (own_seqS l Z a0 hw [] s1 s1  h0 n0 Z0 rfl) hZ (hw _ (List.mem_of_getElem? (i := 72) rfl)) (hw _ (List.mem_of_getElem? (i := 3) rfl)) (by decide) (by decide)) q7a q7c (g := (mkF m 31 #[.val (.ref t1), .val (.ref t2), .val (.ref t2)] [(.ref s1), (.ref s1)])) rfl (by rw [hml]; rfl) (Steps.refl _) (argsL := [(.ref s1)]) (rest := []) (lenOf own_pd8 rfl) rfl (by show 2 * 0 + _ ≤ _; exact Nat.le_of_eq rfl) (hb hby own_d11_31) (fun _ _ => ⟨rfl, e6, (by decide : 0 + 0 ≤ _), (by decide : 0 + 0 ≤ _)⟩)
  dsimp only [Pt.U, Pt.locs, Pt.cells, Pt.slots] at X7 l7 y7 z7 st7 hQ7
  subst l7 y7 z7
  obtain ⟨rfl, N7q, e7⟩ := hQ7
  have N7 := Fr.app N0 N7q
  obtain ⟨fs, hr, hrun, hended, hW, hsame⟩ := X7.leave (v := some (.int (1 : Int32))) (fun h => by rw [Bd.returns] at h; cases h)
  refine ⟨_, _, pre0 _ ?_, hrun, hended, _, _, rfl, ?_, ⟨_, rfl⟩, hW, hsame.mono (by decide) (by decide)⟩
  · show Steps p.tables e below (s₁.setTop (mkF m 0 #[.val (.ref t1), .val (.ref t2), .unset] [])) _
    refine XS.aloadN X0.here hx rfl (hb hby own_d11_0) rfl rfl ?_
    show Steps p.tables e below (s₁.setTop (mkF m 1 #[.val (.ref t1), .val (.ref t2), .unset] [(.ref t2)])) _
    refine st1 _ ?_
    show Steps p.tables e below (T1.setTop (mkF m 4 #[.val (.ref t1), .val (.ref t2), .unset] [(.int (1 : Int32))])) _
    refine XS.ifNo X1.here hx rfl (hb hby own_d11_4) rfl ((if0 _ _).trans (feq (by decide : ¬ ((1 : Int32) = (0 : Int32)))).1) ?_
    show Steps p.tables e below (T1.setTop (mkF m 7 #[.val (.ref t1), .val (.ref t2), .unset] [])) _
    refine XS.aloadN X1.here hx rfl (hb hby own_d11_7) rfl rfl ?_
    show Steps p.tables e below (T1.setTop (mkF m 8 #[.val (.ref t1), .val (.ref t2), .unset] [(.ref t2)])) _
    refine st2 _ ?_
    show Steps p.tables e below (T2.setTop (mkF m 11 #[.val (.ref t1), .val (.ref t2), .unset] [(.ref t2)])) _
    refine XS.astoreN X2.here hx rfl (hb hby own_d11_11) rfl rfl (l' := #[.val (.ref t1), .val (.ref t2), .val (.ref t2)]) rfl ?_
    show Steps p.tables e below (T2.setTop (mkF m 12 #[.val (.ref t1), .val (.ref t2), .val (.ref t2)] [])) _
    refine XS.aloadN X2.here hx rfl (hb hby own_d11_12) rfl rfl ?_
    show Steps p.tables e below (T2.setTop (mkF m 13 #[.val (.ref t1), .val (.ref t2), .val (.ref t2)] [(.ref t1)])) _
    refine st3 _ ?_
    show Steps p.tables e below (T3.setTop (mkF m 16 #[.val (.ref t1), .val (.ref t2), .val (.ref t2)] [(.int w1)])) _
    refine XS.aloadN X3.here hx rfl (hb hby own_d11_16) rfl rfl ?_
    show Steps p.tables e below (T3.setTop (mkF m 17 #[.val (.ref t1), .val (.ref t2), .val (.ref t2)] [(.ref t2), (.int w1)])) _
    refine st4 _ ?_
    show Steps p.tables e below (T4.setTop (mkF m 20 #[.val (.ref t1), .val (.ref t2), .val (.ref t2)] [(.int w1), (.int w1)])) _
    refine XS.icmpNo X4.here hx rfl (hb hby own_d11_20) rfl (teq (rfl : w1 = w1)).2 ?_
    show Steps p.tables e below (T4.setTop (mkF m 23 #[.val (.ref t1), .val (.ref t2), .val (.ref t2)] [])) _
    refine XS.aloadN X4.here hx rfl (hb hby own_d11_23) rfl rfl ?_
    show Steps p.tables e below (T4.setTop (mkF m 24 #[.val (.ref t1), .val (.ref t2), .val (.ref t2)] [(.ref t1)])) _
    refine st5 _ ?_
    show Steps p.tables e below (T5.setTop (mkF m 27 #[.val (.ref t1), .val (.ref t2), .val (.ref t2)] [(.ref s1)])) _
    refine XS.aloadN X5.here hx rfl (hb hby own_d11_27) rfl rfl ?_
    show Steps p.tables e below (T5.setTop (mkF m 28 #[.val (.ref t1), .val (.ref t2), .val (.ref t2)] [(.ref t2), (.ref s1)])) _
    refine st6 _ ?_
    show Steps p.tables e below (T6.setTop (mkF m 31 #[.val (.ref t1), .val (.ref t2), .val (.ref t2)] [(.ref s1), (.ref s1)])) _
    refine st7.trans ?_
    show Steps p.tables e below (T7.setTop (mkF m 34 #[.val (.ref t1), .val (.ref t2), .val (.ref t2)] [(.int (1 : Int32))])) _
    refine XS.ifNo X7.here hx rfl (hb hby own_d11_34) rfl ((if0 _ _).trans (feq (by decide : ¬ ((1 : Int32) = (0 : Int32)))).1) ?_
    show Steps p.tables e below (T7.setTop (mkF m 37 #[.val (.ref t1), .val (.ref t2), .val (.ref t2)] [])) _
    refine XS.iconst X7.here hx rfl (hb hby own_d11_37) ?_
    show Steps p.tables e below (T7.setTop (mkF m 38 #[.val (.ref t1), .val (.ref t2), .val (.ref t2)] [(.int (1 : Int32))])) _
    refine XS.goto X7.here hx rfl (pc0 := 38) (pc' := 42) rfl (hb hby own_d11_38) (by decide) (by decide) ?_
    show Steps p.tables e below (T7.setTop (mkF m 42 #[.val (.ref t1), .val (.ref t2), .val (.ref t2)] [(.int (1 : Int32))])) _
    exact retN X7 hx (t := .boolean) Bd.returns (by simp) (hb hby own_d11_42) hr
  · show own_Q_own_teqS Z t1 t2 s1 w1 h0 n0 _ T7.heap _
    rw [e7]
    exact ⟨rfl, N7, rfl⟩
theorem own_ef11_1 (m : MethodId) (x0 : Addr) : entryFrame m #[(.ref x0), .null] 3 = mkF m 0 #[.val (.ref x0), .val .null, .unset] [] := by first | (simp [entryFrame, mkF, argsToLocals, Value.category]; done) | rfl
def own_Q_own_teqN (Z : State) (t1 : Addr) (h0 : Heap) (n0 : Nat) (v : Option Value) (h : Heap) (L : List Loc) : Prop := v = some (.int 0) ∧ Fr n0 L ∧ h = h0
set_option maxRecDepth 65536 in
set_option maxHeartbeats 40000000 in
theorem own_teqN (l : Launch) (Z : State) (a0 : Array Value) (hw : ∀ d ∈ tables_1, d.before a0 Z = true) (ws : List Jvm.Cond) (t1 : Addr) (h0 : Heap) (n0 : Nat) (Z0 : n0 ≤ h0.size) :
    MetFree l (⟨"com/example/vigilant_consumer/vigilantconsumer/TopicPartition", "equals", "(Ljava/lang/Object;)Z"⟩ : MethodName) (head1 (Jvm.Cond.code (⟨"com/example/vigilant_consumer/vigilantconsumer/TopicPartition", "equals", "(Ljava/lang/Object;)Z"⟩ : MethodName) prog_59_method_2_code 3 (some .boolean) :: ws) ({ frames := 0, cells := 0, slots := 0, locals := 0 } : Room)) (fun as_ U => as_ = #[(.ref t1), .null] ∧ Z.Warmed39 U.vm ∧ U.heap = h0) (fun _ _ _ _ _ => True) (fun _ U o U' => ∃ v L, o = .returned v ∧ own_Q_own_teqN Z t1 h0 n0 v U'.heap L ∧ FrameEnd U o U' L ({ frames := 0, cells := 0, slots := 0, locals := 0 } : Room).cells ({ frames := 0, cells := 0, slots := 0, locals := 0 } : Room).slots) := by
  refine MetFree.of_bodySF (plainFor_of_name own_pn4) hisR ?_
  intro p e s m args below meth c s₁ Bd hml0 hP hK
  obtain ⟨rfl, hZ, hh⟩ := hP
  have hx := Bd.exec
  have hby := Bd.bytes
  have hml : c.maxLocals = 3 := hml0
  have hown : s.vm.findClass "com/example/vigilant_consumer/vigilantconsumer/TopicPartition" = some m.cls := findClass_of_methodNamed Bd.named
  have hnm := (name_of_methodNamed Bd.named Bd.method).1
  have X0 : Stand p l e ({ frames := 0, cells := 0, slots := 0, locals := 0 } : Room) s m #[(.ref t1), .null] below meth c s₁ [] 0 0 := Stand.of_body Bd
  have e0 : s₁.heap = h0 := by rw [← hh, Bd.state]; rfl
  have N0 := Fr.nil n0
  have pre0 : ∀ t, Steps p.tables e below (s₁.setTop (mkF m 0 #[.val (.ref t1), .val .null, .unset] [])) t → Steps p.tables e below (s₁.setTop (entryFrame m #[(.ref t1), .null] 3)) t := fun t k => castTop (own_ef11_1 m t1) k
  obtain ⟨fs, hr, hrun, hended, hW, hsame⟩ := X0.leave (v := some (.int (0 : Int32))) (fun h => by rw [Bd.returns] at h; cases h)
  refine ⟨_, _, pre0 _ ?_, hrun, hended, _, _, rfl, ?_, ⟨_, rfl⟩, hW, hsame.mono (by decide) (by decide)⟩
  · show Steps p.tables e below (s₁.setTop (mkF m 0 #[.val (.ref t1), .val .null, .unset] [])) _
    refine XS.aloadN X0.here hx rfl (hb hby own_d11_0) rfl rfl ?_
    show Steps p.tables e below (s₁.setTop (mkF m 1 #[.val (.ref t1), .val .null, .unset] [.null])) _
    refine X0.instanceofNull hx (g := (mkF m 1 #[.val (.ref t1), .val .null, .unset] [.null])) rfl rfl (hb hby own_d11_1) _ ?_
    show Steps p.tables e below (s₁.setTop (mkF m 4 #[.val (.ref t1), .val .null, .unset] [(.int (0 : Int32))])) _
    refine XS.ifYes X0.here hx rfl (pc0 := 4) (pc' := 41) rfl (hb hby own_d11_4) rfl ((if0 _ _).trans (teq (by decide : (0 : Int32) = (0 : Int32))).1) (by decide) (by decide) ?_
    show Steps p.tables e below (s₁.setTop (mkF m 41 #[.val (.ref t1), .val .null, .unset] [])) _
    refine XS.iconst X0.here hx rfl (hb hby own_d11_41) ?_
    show Steps p.tables e below (s₁.setTop (mkF m 42 #[.val (.ref t1), .val .null, .unset] [(.int (0 : Int32))])) _
    exact retN X0 hx (t := .boolean) Bd.returns (by simp) (hb hby own_d11_42) hr
  · show own_Q_own_teqN Z t1 h0 n0 _ s₁.heap _
    rw [e0]
    exact ⟨rfl, N0, rfl⟩
def own_Q_own_teqO (Z : State) (t1 : Addr) (t2 : Addr) (h0 : Heap) (n0 : Nat) (v : Option Value) (h : Heap) (L : List Loc) : Prop := v = some (.int 0) ∧ Fr n0 L ∧ h = h0
set_option maxRecDepth 65536 in
set_option maxHeartbeats 40000000 in
theorem own_teqO (l : Launch) (Z : State) (a0 : Array Value) (hw : ∀ d ∈ tables_1, d.before a0 Z = true) (ws : List Jvm.Cond) (t1 : Addr) (t2 : Addr) (h0 : Heap) (n0 : Nat) (Z0 : n0 ≤ h0.size) (E1 : Exa Z h0 t2 "java/lang/String") :
    MetFree l (⟨"com/example/vigilant_consumer/vigilantconsumer/TopicPartition", "equals", "(Ljava/lang/Object;)Z"⟩ : MethodName) (head1 (Jvm.Cond.code (⟨"com/example/vigilant_consumer/vigilantconsumer/TopicPartition", "equals", "(Ljava/lang/Object;)Z"⟩ : MethodName) prog_59_method_2_code 3 (some .boolean) :: ws) ({ frames := 0, cells := 0, slots := 0, locals := 0 } : Room)) (fun as_ U => as_ = #[(.ref t1), (.ref t2)] ∧ Z.Warmed39 U.vm ∧ U.heap = h0) (fun _ _ _ _ _ => True) (fun _ U o U' => ∃ v L, o = .returned v ∧ own_Q_own_teqO Z t1 t2 h0 n0 v U'.heap L ∧ FrameEnd U o U' L ({ frames := 0, cells := 0, slots := 0, locals := 0 } : Room).cells ({ frames := 0, cells := 0, slots := 0, locals := 0 } : Room).slots) := by
  refine MetFree.of_bodySF (plainFor_of_name own_pn4) hisR ?_
  intro p e s m args below meth c s₁ Bd hml0 hP hK
  obtain ⟨rfl, hZ, hh⟩ := hP
  have hx := Bd.exec
  have hby := Bd.bytes
  have hml : c.maxLocals = 3 := hml0
  have hown : s.vm.findClass "com/example/vigilant_consumer/vigilantconsumer/TopicPartition" = some m.cls := findClass_of_methodNamed Bd.named
  have hnm := (name_of_methodNamed Bd.named Bd.method).1
  have X0 : Stand p l e ({ frames := 0, cells := 0, slots := 0, locals := 0 } : Room) s m #[(.ref t1), (.ref t2)] below meth c s₁ [] 0 0 := Stand.of_body Bd
  have e0 : s₁.heap = h0 := by rw [← hh, Bd.state]; rfl
  have N0 := Fr.nil n0
  have pre0 : ∀ t, Steps p.tables e below (s₁.setTop (mkF m 0 #[.val (.ref t1), .val (.ref t2), .unset] [])) t → Steps p.tables e below (s₁.setTop (entryFrame m #[(.ref t1), (.ref t2)] 3)) t := fun t k => castTop (own_ef11 m t1 t2) k
  obtain ⟨T1, X1, e1, st1⟩ := instNo X0 hx hZ hown (hw _ (List.mem_of_getElem? (i := 64) rfl)) e0 E1 (own_noInst (hw _ (List.mem_of_getElem? (i := 66) rfl)) (hw _ (List.mem_of_getElem? (i := 67) rfl)) (hw _ (List.mem_of_getElem? (i := 32) rfl)) (by decide) (by decide)) (g := (mkF m 1 #[.val (.ref t1), .val (.ref t2), .unset] [(.ref t2)])) rfl rfl (hb hby own_d11_1)
  obtain ⟨fs, hr, hrun, hended, hW, hsame⟩ := X1.leave (v := some (.int (0 : Int32))) (fun h => by rw [Bd.returns] at h; cases h)
  refine ⟨_, _, pre0 _ ?_, hrun, hended, _, _, rfl, ?_, ⟨_, rfl⟩, hW, hsame.mono (by decide) (by decide)⟩
  · show Steps p.tables e below (s₁.setTop (mkF m 0 #[.val (.ref t1), .val (.ref t2), .unset] [])) _
    refine XS.aloadN X0.here hx rfl (hb hby own_d11_0) rfl rfl ?_
    show Steps p.tables e below (s₁.setTop (mkF m 1 #[.val (.ref t1), .val (.ref t2), .unset] [(.ref t2)])) _
    refine st1 _ ?_
    show Steps p.tables e below (T1.setTop (mkF m 4 #[.val (.ref t1), .val (.ref t2), .unset] [(.int (0 : Int32))])) _
    refine XS.ifYes X1.here hx rfl (pc0 := 4) (pc' := 41) rfl (hb hby own_d11_4) rfl ((if0 _ _).trans (teq (by decide : (0 : Int32) = (0 : Int32))).1) (by decide) (by decide) ?_
    show Steps p.tables e below (T1.setTop (mkF m 41 #[.val (.ref t1), .val (.ref t2), .unset] [])) _
    refine XS.iconst X1.here hx rfl (hb hby own_d11_41) ?_
    show Steps p.tables e below (T1.setTop (mkF m 42 #[.val (.ref t1), .val (.ref t2), .unset] [(.int (0 : Int32))])) _
    exact retN X1 hx (t := .boolean) Bd.returns (by simp) (hb hby own_d11_42) hr
  · show own_Q_own_teqO Z t1 t2 h0 n0 _ T1.heap _
    rw [e1]
    exact ⟨rfl, N0, rfl⟩
theorem own_pd9 : parseMethodDescriptor "([C)V" = some ⟨[(.array .char)], none⟩ := by decide +kernel
theorem own_pd10 : parseMethodDescriptor "(Ljava/lang/String;I)V" = some ⟨[(.object "java/lang/String"), .int], none⟩ := by decide +kernel
theorem own_pn6 : plainName "com/example/vigilant_consumer/vigilantconsumer/TopicPartitionEqualsPinLaw" = true := by first | (simp [plainName, overriddenIn]; done) | decide +kernel
theorem own_ef0 (m : MethodId) (x0 : Int32) (x1 : Int32) (x2 : Int32) (x3 : Int32) (x4 : Int32) : entryFrame m #[(.int x0), (.int x1), (.int x2), (.int x3), (.int x4)] maxLocals = mkF m 0 #[.val (.int x0), .val (.int x1), .val (.int x2), .val (.int x3), .val (.int x4), .unset, .unset, .unset, .unset, .unset, .unset, .unset, .unset, .unset, .unset, .unset, .unset, .unset, .unset, .unset, .unset] [] := by first | (simp [entryFrame, mkF, argsToLocals, Value.category, maxLocals]; done) | rfl
def own_Q_own_law (Z : State) (x1 : Int32) (x2 : Int32) (x3 : Int32) (x4 : Int32) (x5 : Int32) (cz : Int32) (h0 : Heap) (n0 : Nat) (v : Option Value) (h : Heap) (L : List Loc) : Prop := v = some (.int 1) ∧ Fr n0 L
set_option maxRecDepth 65536 in
set_option maxHeartbeats 40000000 in
theorem own_law (l : Launch) (Z : State) (a0 : Array Value) (hw : ∀ d ∈ tables_1, d.before a0 Z = true) (ws : List Jvm.Cond) (x1 : Int32) (x2 : Int32) (x3 : Int32) (x4 : Int32) (x5 : Int32) (cz : Int32) (h0 : Heap) (n0 : Nat) (Z0 : n0 ≤ h0.size) (O : Old Z n0 h0) (S0 : Sta Z Z.heap "java/lang/String" "COMPACT_STRINGS" "Z" (.int cz)) (hcz : ¬ (cz = (0 : Int32))) :
    MetFree l x (head1 (Jvm.Cond.code x code maxLocals ret :: ws) room_1) (fun as_ U => as_ = #[(.int x1), (.int x2), (.int x3), (.int x4), (.int x5)] ∧ Z.Warmed39 U.vm ∧ U.heap = h0) (fun _ _ _ _ _ => True) (fun _ U o U' => ∃ v L, o = .returned v ∧ own_Q_own_law Z x1 x2 x3 x4 x5 cz h0 n0 v U'.heap L ∧ ReturnedEndW U o U' L room_1.cells room_1.slots) := by
  refine MetFree.of_bodySF (plainFor_of_name own_pn6) hisR ?_
  intro p e s m args below meth c s₁ Bd hml0 hP hK
  obtain ⟨rfl, hZ, hh⟩ := hP
  have hx := Bd.exec
  have hby := Bd.bytes
  have hml : c.maxLocals = 21 := hml0
  have hown : s.vm.findClass "com/example/vigilant_consumer/vigilantconsumer/TopicPartitionEqualsPinLaw" = some m.cls := findClass_of_methodNamed Bd.named
  have hnm := (name_of_methodNamed Bd.named Bd.method).1
  have X0 : Stand p l e room_1 (s.setVm s.vm) m #[(.int x1), (.int x2), (.int x3), (.int x4), (.int x5)] below meth c s₁ [] 0 0 := Stand.of_body Bd
  have e0 : s₁.heap = h0 := by rw [← hh, Bd.state]; rfl
  have N0 := Fr.nil n0
  have pre0 : ∀ t, Steps p.tables e below (s₁.setTop (mkF m 0 #[.val (.int x1), .val (.int x2), .val (.int x3), .val (.int x4), .val (.int x5), .unset, .unset, .unset, .unset, .unset, .unset, .unset, .unset, .unset, .unset, .unset, .unset, .unset, .unset, .unset, .unset] [])) t → Steps p.tables e below (s₁.setTop (entryFrame m #[(.int x1), (.int x2), (.int x3), (.int x4), (.int x5)] maxLocals)) t := fun t k => castTop (own_ef0 m x1 x2 x3 x4 x5) k
  have hS : s.Since s.vm 0 := (State.WarmedH.refl s).since 0
  have hk : 0 ≤ h0.size := Nat.zero_le _
  have hZ : Z.Warmed39 (s.setVm s.vm).vm := hZ
  have hown : (s.setVm s.vm).vm.findClass "com/example/vigilant_consumer/vigilantconsumer/TopicPartitionEqualsPinLaw" = some m.cls := hown
  have pre2 : ∀ t, Steps p.tables e below (s₁.setTop (mkF m 12 #[.val (.int x1), .val (.int x2), .val (.int x3), .val (.int x4), .val (.int x5), .unset, .unset, .unset, .unset, .unset, .unset, .unset, .unset, .unset, .unset, .unset, .unset, .unset, .unset, .unset, .unset] [(.int (if ¬ ((x5 &&& (1 : Int32)) = (0 : Int32)) then (1 : Int32) else (0 : Int32)))])) t → Steps p.tables e below (s₁.setTop (entryFrame m #[(.int x1), (.int x2), (.int x3), (.int x4), (.int x5)] maxLocals)) t := fun t k => pre0 t (by
    show Steps p.tables e below (s₁.setTop (mkF m 0 #[.val (.int x1), .val (.int x2), .val (.int x3), .val (.int x4), .val (.int x5), .unset, .unset, .unset, .unset, .unset, .unset, .unset, .unset, .unset, .unset, .unset, .unset, .unset, .unset, .unset, .unset] [])) _
    refine XS.iload X0.here hx rfl (hb hby at_0) rfl ?_
    show Steps p.tables e below (s₁.setTop (mkF m 2 #[.val (.int x1), .val (.int x2), .val (.int x3), .val (.int x4), .val (.int x5), .unset, .unset, .unset, .unset, .unset, .unset, .unset, .unset, .unset, .unset, .unset, .unset, .unset, .unset, .unset, .unset] [(.int x5)])) _
    refine XS.iconst X0.here hx rfl (hb hby at_2) ?_
    show Steps p.tables e below (s₁.setTop (mkF m 3 #[.val (.int x1), .val (.int x2), .val (.int x3), .val (.int x4), .val (.int x5), .unset, .unset, .unset, .unset, .unset, .unset, .unset, .unset, .unset, .unset, .unset, .unset, .unset, .unset, .unset, .unset] [(.int (1 : Int32)), (.int x5)])) _
    refine XS.iand X0.here hx rfl (hb hby at_3) rfl ?_
    show Steps p.tables e below (s₁.setTop (mkF m 4 #[.val (.int x1), .val (.int x2), .val (.int x3), .val (.int x4), .val (.int x5), .unset, .unset, .unset, .unset, .unset, .unset, .unset, .unset, .unset, .unset, .unset, .unset, .unset, .unset, .unset, .unset] [(.int (x5 &&& (1 : Int32)))])) _
    by_cases hc1 : (x5 &&& (1 : Int32)) = (0 : Int32)
    · skip
      refine XS.ifYes X0.here hx rfl (pc0 := 4) (pc' := 11) rfl (hb hby at_4) rfl ((if0 _ _).trans (teq hc1).1) (by decide) (by decide) ?_
      show Steps p.tables e below (s₁.setTop (mkF m 11 #[.val (.int x1), .val (.int x2), .val (.int x3), .val (.int x4), .val (.int x5), .unset, .unset, .unset, .unset, .unset, .unset, .unset, .unset, .unset, .unset, .unset, .unset, .unset, .unset, .unset, .unset] [])) _
      refine XS.iconst X0.here hx rfl (hb hby at_11) ?_
      exact castTop (congrArg (fun z_ => (mkF m 12 #[.val (.int x1), .val (.int x2), .val (.int x3), .val (.int x4), .val (.int x5), .unset, .unset, .unset, .unset, .unset, .unset, .unset, .unset, .unset, .unset, .unset, .unset, .unset, .unset, .unset, .unset] [(.int z_)])) (show (0 : Int32) = (if ¬ ((x5 &&& (1 : Int32)) = (0 : Int32)) then (1 : Int32) else (0 : Int32)) from by rw [if_neg (not_not_intro hc1)])) k
    · skip
      refine XS.ifNo X0.here hx rfl (hb hby at_4) rfl ((if0 _ _).trans (feq hc1).1) ?_
      show Steps p.tables e below (s₁.setTop (mkF m 7 #[.val (.int x1), .val (.int x2), .val (.int x3), .val (.int x4), .val (.int x5), .unset, .unset, .unset, .unset, .unset, .unset, .unset, .unset, .unset, .unset, .unset, .unset, .unset, .unset, .unset, .unset] [])) _
      refine XS.iconst X0.here hx rfl (hb hby at_7) ?_
      show Steps p.tables e below (s₁.setTop (mkF m 8 #[.val (.int x1), .val (.int x2), .val (.int x3), .val (.int x4), .val (.int x5), .unset, .unset, .unset, .unset, .unset, .unset, .unset, .unset, .unset, .unset, .unset, .unset, .unset, .unset, .unset, .unset] [(.int (1 : Int32))])) _
      refine XS.goto X0.here hx rfl (pc0 := 8) (pc' := 12) rfl (hb hby at_8) (by decide) (by decide) ?_
      exact castTop (congrArg (fun z_ => (mkF m 12 #[.val (.int x1), .val (.int x2), .val (.int x3), .val (.int x4), .val (.int x5), .unset, .unset, .unset, .unset, .unset, .unset, .unset, .unset, .unset, .unset, .unset, .unset, .unset, .unset, .unset, .unset] [(.int z_)])) (show (1 : Int32) = (if ¬ ((x5 &&& (1 : Int32)) = (0 : Int32)) then (1 : Int32) else (0 : Int32)) from by rw [if_pos hc1])) k)
  have pre4 : ∀ t, Steps p.tables e below (s₁.setTop (mkF m 26 #[.val (.int x1), .val (.int x2), .val (.int x3), .val (.int x4), .val (.int x5), .val (.int (if ¬ ((x5 &&& (1 : Int32)) = (0 : Int32)) then (1 : Int32) else (0 : Int32))), .unset, .unset, .unset, .unset, .unset, .unset, .unset, .unset, .unset, .unset, .unset, .unset, .unset, .unset, .unset] [(.int (if ¬ ((x5 &&& (2 : Int32)) = (0 : Int32)) then (1 : Int32) else (0 : Int32)))])) t → Steps p.tables e below (s₁.setTop (entryFrame m #[(.int x1), (.int x2), (.int x3), (.int x4), (.int x5)] maxLocals)) t := fun t k => pre2 t (by
    show Steps p.tables e below (s₁.setTop (mkF m 12 #[.val (.int x1), .val (.int x2), .val (.int x3), .val (.int x4), .val (.int x5), .unset, .unset, .unset, .unset, .unset, .unset, .unset, .unset, .unset, .unset, .unset, .unset, .unset, .unset, .unset, .unset] [(.int (if ¬ ((x5 &&& (1 : Int32)) = (0 : Int32)) then (1 : Int32) else (0 : Int32)))])) _
    refine XS.istore X0.here hx rfl (hb hby at_12) rfl (l' := #[.val (.int x1), .val (.int x2), .val (.int x3), .val (.int x4), .val (.int x5), .val (.int (if ¬ ((x5 &&& (1 : Int32)) = (0 : Int32)) then (1 : Int32) else (0 : Int32))), .unset, .unset, .unset, .unset, .unset, .unset, .unset, .unset, .unset, .unset, .unset, .unset, .unset, .unset, .unset]) rfl ?_
    show Steps p.tables e below (s₁.setTop (mkF m 14 #[.val (.int x1), .val (.int x2), .val (.int x3), .val (.int x4), .val (.int x5), .val (.int (if ¬ ((x5 &&& (1 : Int32)) = (0 : Int32)) then (1 : Int32) else (0 : Int32))), .unset, .unset, .unset, .unset, .unset, .unset, .unset, .unset, .unset, .unset, .unset, .unset, .unset, .unset, .unset] [])) _
    refine XS.iload X0.here hx rfl (hb hby at_14) rfl ?_
    show Steps p.tables e below (s₁.setTop (mkF m 16 #[.val (.int x1), .val (.int x2), .val (.int x3), .val (.int x4), .val (.int x5), .val (.int (if ¬ ((x5 &&& (1 : Int32)) = (0 : Int32)) then (1 : Int32) else (0 : Int32))), .unset, .unset, .unset, .unset, .unset, .unset, .unset, .unset, .unset, .unset, .unset, .unset, .unset, .unset, .unset] [(.int x5)])) _
    refine XS.iconst X0.here hx rfl (hb hby at_16) ?_
    show Steps p.tables e below (s₁.setTop (mkF m 17 #[.val (.int x1), .val (.int x2), .val (.int x3), .val (.int x4), .val (.int x5), .val (.int (if ¬ ((x5 &&& (1 : Int32)) = (0 : Int32)) then (1 : Int32) else (0 : Int32))), .unset, .unset, .unset, .unset, .unset, .unset, .unset, .unset, .unset, .unset, .unset, .unset, .unset, .unset, .unset] [(.int (2 : Int32)), (.int x5)])) _
    refine XS.iand X0.here hx rfl (hb hby at_17) rfl ?_
    show Steps p.tables e below (s₁.setTop (mkF m 18 #[.val (.int x1), .val (.int x2), .val (.int x3), .val (.int x4), .val (.int x5), .val (.int (if ¬ ((x5 &&& (1 : Int32)) = (0 : Int32)) then (1 : Int32) else (0 : Int32))), .unset, .unset, .unset, .unset, .unset, .unset, .unset, .unset, .unset, .unset, .unset, .unset, .unset, .unset, .unset] [(.int (x5 &&& (2 : Int32)))])) _
    by_cases hc3 : (x5 &&& (2 : Int32)) = (0 : Int32)
    · skip
      refine XS.ifYes X0.here hx rfl (pc0 := 18) (pc' := 25) rfl (hb hby at_18) rfl ((if0 _ _).trans (teq hc3).1) (by decide) (by decide) ?_
      show Steps p.tables e below (s₁.setTop (mkF m 25 #[.val (.int x1), .val (.int x2), .val (.int x3), .val (.int x4), .val (.int x5), .val (.int (if ¬ ((x5 &&& (1 : Int32)) = (0 : Int32)) then (1 : Int32) else (0 : Int32))), .unset, .unset, .unset, .unset, .unset, .unset, .unset, .unset, .unset, .unset, .unset, .unset, .unset, .unset, .unset] [])) _
      refine XS.iconst X0.here hx rfl (hb hby at_25) ?_
      exact castTop (congrArg (fun z_ => (mkF m 26 #[.val (.int x1), .val (.int x2), .val (.int x3), .val (.int x4), .val (.int x5), .val (.int (if ¬ ((x5 &&& (1 : Int32)) = (0 : Int32)) then (1 : Int32) else (0 : Int32))), .unset, .unset, .unset, .unset, .unset, .unset, .unset, .unset, .unset, .unset, .unset, .unset, .unset, .unset, .unset] [(.int z_)])) (show (0 : Int32) = (if ¬ ((x5 &&& (2 : Int32)) = (0 : Int32)) then (1 : Int32) else (0 : Int32)) from by rw [if_neg (not_not_intro hc3)])) k
    · skip
      refine XS.ifNo X0.here hx rfl (hb hby at_18) rfl ((if0 _ _).trans (feq hc3).1) ?_
      show Steps p.tables e below (s₁.setTop (mkF m 21 #[.val (.int x1), .val (.int x2), .val (.int x3), .val (.int x4), .val (.int x5), .val (.int (if ¬ ((x5 &&& (1 : Int32)) = (0 : Int32)) then (1 : Int32) else (0 : Int32))), .unset, .unset, .unset, .unset, .unset, .unset, .unset, .unset, .unset, .unset, .unset, .unset, .unset, .unset, .unset] [])) _
      refine XS.iconst X0.here hx rfl (hb hby at_21) ?_
      show Steps p.tables e below (s₁.setTop (mkF m 22 #[.val (.int x1), .val (.int x2), .val (.int x3), .val (.int x4), .val (.int x5), .val (.int (if ¬ ((x5 &&& (1 : Int32)) = (0 : Int32)) then (1 : Int32) else (0 : Int32))), .unset, .unset, .unset, .unset, .unset, .unset, .unset, .unset, .unset, .unset, .unset, .unset, .unset, .unset, .unset] [(.int (1 : Int32))])) _
      refine XS.goto X0.here hx rfl (pc0 := 22) (pc' := 26) rfl (hb hby at_22) (by decide) (by decide) ?_
      exact castTop (congrArg (fun z_ => (mkF m 26 #[.val (.int x1), .val (.int x2), .val (.int x3), .val (.int x4), .val (.int x5), .val (.int (if ¬ ((x5 &&& (1 : Int32)) = (0 : Int32)) then (1 : Int32) else (0 : Int32))), .unset, .unset, .unset, .unset, .unset, .unset, .unset, .unset, .unset, .unset, .unset, .unset, .unset, .unset, .unset] [(.int z_)])) (show (1 : Int32) = (if ¬ ((x5 &&& (2 : Int32)) = (0 : Int32)) then (1 : Int32) else (0 : Int32)) from by rw [if_pos hc3])) k)
  have pre6 : ∀ t, Steps p.tables e below (s₁.setTop (mkF m 40 #[.val (.int x1), .val (.int x2), .val (.int x3), .val (.int x4), .val (.int x5), .val (.int (if ¬ ((x5 &&& (1 : Int32)) = (0 : Int32)) then (1 : Int32) else (0 : Int32))), .val (.int (if ¬ ((x5 &&& (2 : Int32)) = (0 : Int32)) then (1 : Int32) else (0 : Int32))), .unset, .unset, .unset, .unset, .unset, .unset, .unset, .unset, .unset, .unset, .unset, .unset, .unset, .unset] [(.int (if ¬ ((x5 &&& (4 : Int32)) = (0 : Int32)) then (1 : Int32) else (0 : Int32)))])) t → Steps p.tables e below (s₁.setTop (entryFrame m #[(.int x1), (.int x2), (.int x3), (.int x4), (.int x5)] maxLocals)) t := fun t k => pre4 t (by
    show Steps p.tables e below (s₁.setTop (mkF m 26 #[.val (.int x1), .val (.int x2), .val (.int x3), .val (.int x4), .val (.int x5), .val (.int (if ¬ ((x5 &&& (1 : Int32)) = (0 : Int32)) then (1 : Int32) else (0 : Int32))), .unset, .unset, .unset, .unset, .unset, .unset, .unset, .unset, .unset, .unset, .unset, .unset, .unset, .unset, .unset] [(.int (if ¬ ((x5 &&& (2 : Int32)) = (0 : Int32)) then (1 : Int32) else (0 : Int32)))])) _
    refine XS.istore X0.here hx rfl (hb hby at_26) rfl (l' := #[.val (.int x1), .val (.int x2), .val (.int x3), .val (.int x4), .val (.int x5), .val (.int (if ¬ ((x5 &&& (1 : Int32)) = (0 : Int32)) then (1 : Int32) else (0 : Int32))), .val (.int (if ¬ ((x5 &&& (2 : Int32)) = (0 : Int32)) then (1 : Int32) else (0 : Int32))), .unset, .unset, .unset, .unset, .unset, .unset, .unset, .unset, .unset, .unset, .unset, .unset, .unset, .unset]) rfl ?_
    show Steps p.tables e below (s₁.setTop (mkF m 28 #[.val (.int x1), .val (.int x2), .val (.int x3), .val (.int x4), .val (.int x5), .val (.int (if ¬ ((x5 &&& (1 : Int32)) = (0 : Int32)) then (1 : Int32) else (0 : Int32))), .val (.int (if ¬ ((x5 &&& (2 : Int32)) = (0 : Int32)) then (1 : Int32) else (0 : Int32))), .unset, .unset, .unset, .unset, .unset, .unset, .unset, .unset, .unset, .unset, .unset, .unset, .unset, .unset] [])) _
    refine XS.iload X0.here hx rfl (hb hby at_28) rfl ?_
    show Steps p.tables e below (s₁.setTop (mkF m 30 #[.val (.int x1), .val (.int x2), .val (.int x3), .val (.int x4), .val (.int x5), .val (.int (if ¬ ((x5 &&& (1 : Int32)) = (0 : Int32)) then (1 : Int32) else (0 : Int32))), .val (.int (if ¬ ((x5 &&& (2 : Int32)) = (0 : Int32)) then (1 : Int32) else (0 : Int32))), .unset, .unset, .unset, .unset, .unset, .unset, .unset, .unset, .unset, .unset, .unset, .unset, .unset, .unset] [(.int x5)])) _
    refine XS.iconst X0.here hx rfl (hb hby at_30) ?_
    show Steps p.tables e below (s₁.setTop (mkF m 31 #[.val (.int x1), .val (.int x2), .val (.int x3), .val (.int x4), .val (.int x5), .val (.int (if ¬ ((x5 &&& (1 : Int32)) = (0 : Int32)) then (1 : Int32) else (0 : Int32))), .val (.int (if ¬ ((x5 &&& (2 : Int32)) = (0 : Int32)) then (1 : Int32) else (0 : Int32))), .unset, .unset, .unset, .unset, .unset, .unset, .unset, .unset, .unset, .unset, .unset, .unset, .unset, .unset] [(.int (4 : Int32)), (.int x5)])) _
    refine XS.iand X0.here hx rfl (hb hby at_31) rfl ?_
    show Steps p.tables e below (s₁.setTop (mkF m 32 #[.val (.int x1), .val (.int x2), .val (.int x3), .val (.int x4), .val (.int x5), .val (.int (if ¬ ((x5 &&& (1 : Int32)) = (0 : Int32)) then (1 : Int32) else (0 : Int32))), .val (.int (if ¬ ((x5 &&& (2 : Int32)) = (0 : Int32)) then (1 : Int32) else (0 : Int32))), .unset, .unset, .unset, .unset, .unset, .unset, .unset, .unset, .unset, .unset, .unset, .unset, .unset, .unset] [(.int (x5 &&& (4 : Int32)))])) _
    by_cases hc5 : (x5 &&& (4 : Int32)) = (0 : Int32)
    · skip
      refine XS.ifYes X0.here hx rfl (pc0 := 32) (pc' := 39) rfl (hb hby at_32) rfl ((if0 _ _).trans (teq hc5).1) (by decide) (by decide) ?_
      show Steps p.tables e below (s₁.setTop (mkF m 39 #[.val (.int x1), .val (.int x2), .val (.int x3), .val (.int x4), .val (.int x5), .val (.int (if ¬ ((x5 &&& (1 : Int32)) = (0 : Int32)) then (1 : Int32) else (0 : Int32))), .val (.int (if ¬ ((x5 &&& (2 : Int32)) = (0 : Int32)) then (1 : Int32) else (0 : Int32))), .unset, .unset, .unset, .unset, .unset, .unset, .unset, .unset, .unset, .unset, .unset, .unset, .unset, .unset] [])) _
      refine XS.iconst X0.here hx rfl (hb hby at_39) ?_
      exact castTop (congrArg (fun z_ => (mkF m 40 #[.val (.int x1), .val (.int x2), .val (.int x3), .val (.int x4), .val (.int x5), .val (.int (if ¬ ((x5 &&& (1 : Int32)) = (0 : Int32)) then (1 : Int32) else (0 : Int32))), .val (.int (if ¬ ((x5 &&& (2 : Int32)) = (0 : Int32)) then (1 : Int32) else (0 : Int32))), .unset, .unset, .unset, .unset, .unset, .unset, .unset, .unset, .unset, .unset, .unset, .unset, .unset, .unset] [(.int z_)])) (show (0 : Int32) = (if ¬ ((x5 &&& (4 : Int32)) = (0 : Int32)) then (1 : Int32) else (0 : Int32)) from by rw [if_neg (not_not_intro hc5)])) k
    · skip
      refine XS.ifNo X0.here hx rfl (hb hby at_32) rfl ((if0 _ _).trans (feq hc5).1) ?_
      show Steps p.tables e below (s₁.setTop (mkF m 35 #[.val (.int x1), .val (.int x2), .val (.int x3), .val (.int x4), .val (.int x5), .val (.int (if ¬ ((x5 &&& (1 : Int32)) = (0 : Int32)) then (1 : Int32) else (0 : Int32))), .val (.int (if ¬ ((x5 &&& (2 : Int32)) = (0 : Int32)) then (1 : Int32) else (0 : Int32))), .unset, .unset, .unset, .unset, .unset, .unset, .unset, .unset, .unset, .unset, .unset, .unset, .unset, .unset] [])) _
      refine XS.iconst X0.here hx rfl (hb hby at_35) ?_
      show Steps p.tables e below (s₁.setTop (mkF m 36 #[.val (.int x1), .val (.int x2), .val (.int x3), .val (.int x4), .val (.int x5), .val (.int (if ¬ ((x5 &&& (1 : Int32)) = (0 : Int32)) then (1 : Int32) else (0 : Int32))), .val (.int (if ¬ ((x5 &&& (2 : Int32)) = (0 : Int32)) then (1 : Int32) else (0 : Int32))), .unset, .unset, .unset, .unset, .unset, .unset, .unset, .unset, .unset, .unset, .unset, .unset, .unset, .unset] [(.int (1 : Int32))])) _
      refine XS.goto X0.here hx rfl (pc0 := 36) (pc' := 40) rfl (hb hby at_36) (by decide) (by decide) ?_
      exact castTop (congrArg (fun z_ => (mkF m 40 #[.val (.int x1), .val (.int x2), .val (.int x3), .val (.int x4), .val (.int x5), .val (.int (if ¬ ((x5 &&& (1 : Int32)) = (0 : Int32)) then (1 : Int32) else (0 : Int32))), .val (.int (if ¬ ((x5 &&& (2 : Int32)) = (0 : Int32)) then (1 : Int32) else (0 : Int32))), .unset, .unset, .unset, .unset, .unset, .unset, .unset, .unset, .unset, .unset, .unset, .unset, .unset, .unset] [(.int z_)])) (show (1 : Int32) = (if ¬ ((x5 &&& (4 : Int32)) = (0 : Int32)) then (1 : Int32) else (0 : Int32)) from by rw [if_pos hc5])) k)
  have pre8 : ∀ t, Steps p.tables e below (s₁.setTop (mkF m 55 #[.val (.int x1), .val (.int x2), .val (.int x3), .val (.int x4), .val (.int x5), .val (.int (if ¬ ((x5 &&& (1 : Int32)) = (0 : Int32)) then (1 : Int32) else (0 : Int32))), .val (.int (if ¬ ((x5 &&& (2 : Int32)) = (0 : Int32)) then (1 : Int32) else (0 : Int32))), .val (.int (if ¬ ((x5 &&& (4 : Int32)) = (0 : Int32)) then (1 : Int32) else (0 : Int32))), .unset, .unset, .unset, .unset, .unset, .unset, .unset, .unset, .unset, .unset, .unset, .unset, .unset] [(.int (if ¬ ((x5 &&& (8 : Int32)) = (0 : Int32)) then (1 : Int32) else (0 : Int32)))])) t → Steps p.tables e below (s₁.setTop (entryFrame m #[(.int x1), (.int x2), (.int x3), (.int x4), (.int x5)] maxLocals)) t := fun t k => pre6 t (by
    show Steps p.tables e below (s₁.setTop (mkF m 40 #[.val (.int x1), .val (.int x2), .val (.int x3), .val (.int x4), .val (.int x5), .val (.int (if ¬ ((x5 &&& (1 : Int32)) = (0 : Int32)) then (1 : Int32) else (0 : Int32))), .val (.int (if ¬ ((x5 &&& (2 : Int32)) = (0 : Int32)) then (1 : Int32) else (0 : Int32))), .unset, .unset, .unset, .unset, .unset, .unset, .unset, .unset, .unset, .unset, .unset, .unset, .unset, .unset] [(.int (if ¬ ((x5 &&& (4 : Int32)) = (0 : Int32)) then (1 : Int32) else (0 : Int32)))])) _
    refine XS.istore X0.here hx rfl (hb hby at_40) rfl (l' := #[.val (.int x1), .val (.int x2), .val (.int x3), .val (.int x4), .val (.int x5), .val (.int (if ¬ ((x5 &&& (1 : Int32)) = (0 : Int32)) then (1 : Int32) else (0 : Int32))), .val (.int (if ¬ ((x5 &&& (2 : Int32)) = (0 : Int32)) then (1 : Int32) else (0 : Int32))), .val (.int (if ¬ ((x5 &&& (4 : Int32)) = (0 : Int32)) then (1 : Int32) else (0 : Int32))), .unset, .unset, .unset, .unset, .unset, .unset, .unset, .unset, .unset, .unset, .unset, .unset, .unset]) rfl ?_
    show Steps p.tables e below (s₁.setTop (mkF m 42 #[.val (.int x1), .val (.int x2), .val (.int x3), .val (.int x4), .val (.int x5), .val (.int (if ¬ ((x5 &&& (1 : Int32)) = (0 : Int32)) then (1 : Int32) else (0 : Int32))), .val (.int (if ¬ ((x5 &&& (2 : Int32)) = (0 : Int32)) then (1 : Int32) else (0 : Int32))), .val (.int (if ¬ ((x5 &&& (4 : Int32)) = (0 : Int32)) then (1 : Int32) else (0 : Int32))), .unset, .unset, .unset, .unset, .unset, .unset, .unset, .unset, .unset, .unset, .unset, .unset, .unset] [])) _
    refine XS.iload X0.here hx rfl (hb hby at_42) rfl ?_
    show Steps p.tables e below (s₁.setTop (mkF m 44 #[.val (.int x1), .val (.int x2), .val (.int x3), .val (.int x4), .val (.int x5), .val (.int (if ¬ ((x5 &&& (1 : Int32)) = (0 : Int32)) then (1 : Int32) else (0 : Int32))), .val (.int (if ¬ ((x5 &&& (2 : Int32)) = (0 : Int32)) then (1 : Int32) else (0 : Int32))), .val (.int (if ¬ ((x5 &&& (4 : Int32)) = (0 : Int32)) then (1 : Int32) else (0 : Int32))), .unset, .unset, .unset, .unset, .unset, .unset, .unset, .unset, .unset, .unset, .unset, .unset, .unset] [(.int x5)])) _
    refine XS.bipush X0.here hx rfl (hb hby at_44) ?_
    show Steps p.tables e below (s₁.setTop (mkF m 46 #[.val (.int x1), .val (.int x2), .val (.int x3), .val (.int x4), .val (.int x5), .val (.int (if ¬ ((x5 &&& (1 : Int32)) = (0 : Int32)) then (1 : Int32) else (0 : Int32))), .val (.int (if ¬ ((x5 &&& (2 : Int32)) = (0 : Int32)) then (1 : Int32) else (0 : Int32))), .val (.int (if ¬ ((x5 &&& (4 : Int32)) = (0 : Int32)) then (1 : Int32) else (0 : Int32))), .unset, .unset, .unset, .unset, .unset, .unset, .unset, .unset, .unset, .unset, .unset, .unset, .unset] [(.int (8 : Int32)), (.int x5)])) _
    refine XS.iand X0.here hx rfl (hb hby at_46) rfl ?_
    show Steps p.tables e below (s₁.setTop (mkF m 47 #[.val (.int x1), .val (.int x2), .val (.int x3), .val (.int x4), .val (.int x5), .val (.int (if ¬ ((x5 &&& (1 : Int32)) = (0 : Int32)) then (1 : Int32) else (0 : Int32))), .val (.int (if ¬ ((x5 &&& (2 : Int32)) = (0 : Int32)) then (1 : Int32) else (0 : Int32))), .val (.int (if ¬ ((x5 &&& (4 : Int32)) = (0 : Int32)) then (1 : Int32) else (0 : Int32))), .unset, .unset, .unset, .unset, .unset, .unset, .unset, .unset, .unset, .unset, .unset, .unset, .unset] [(.int (x5 &&& (8 : Int32)))])) _
    by_cases hc7 : (x5 &&& (8 : Int32)) = (0 : Int32)
    · skip
      refine XS.ifYes X0.here hx rfl (pc0 := 47) (pc' := 54) rfl (hb hby at_47) rfl ((if0 _ _).trans (teq hc7).1) (by decide) (by decide) ?_
      show Steps p.tables e below (s₁.setTop (mkF m 54 #[.val (.int x1), .val (.int x2), .val (.int x3), .val (.int x4), .val (.int x5), .val (.int (if ¬ ((x5 &&& (1 : Int32)) = (0 : Int32)) then (1 : Int32) else (0 : Int32))), .val (.int (if ¬ ((x5 &&& (2 : Int32)) = (0 : Int32)) then (1 : Int32) else (0 : Int32))), .val (.int (if ¬ ((x5 &&& (4 : Int32)) = (0 : Int32)) then (1 : Int32) else (0 : Int32))), .unset, .unset, .unset, .unset, .unset, .unset, .unset, .unset, .unset, .unset, .unset, .unset, .unset] [])) _
      refine XS.iconst X0.here hx rfl (hb hby at_54) ?_
      exact castTop (congrArg (fun z_ => (mkF m 55 #[.val (.int x1), .val (.int x2), .val (.int x3), .val (.int x4), .val (.int x5), .val (.int (if ¬ ((x5 &&& (1 : Int32)) = (0 : Int32)) then (1 : Int32) else (0 : Int32))), .val (.int (if ¬ ((x5 &&& (2 : Int32)) = (0 : Int32)) then (1 : Int32) else (0 : Int32))), .val (.int (if ¬ ((x5 &&& (4 : Int32)) = (0 : Int32)) then (1 : Int32) else (0 : Int32))), .unset, .unset, .unset, .unset, .unset, .unset, .unset, .unset, .unset, .unset, .unset, .unset, .unset] [(.int z_)])) (show (0 : Int32) = (if ¬ ((x5 &&& (8 : Int32)) = (0 : Int32)) then (1 : Int32) else (0 : Int32)) from by rw [if_neg (not_not_intro hc7)])) k
    · skip
      refine XS.ifNo X0.here hx rfl (hb hby at_47) rfl ((if0 _ _).trans (feq hc7).1) ?_
      show Steps p.tables e below (s₁.setTop (mkF m 50 #[.val (.int x1), .val (.int x2), .val (.int x3), .val (.int x4), .val (.int x5), .val (.int (if ¬ ((x5 &&& (1 : Int32)) = (0 : Int32)) then (1 : Int32) else (0 : Int32))), .val (.int (if ¬ ((x5 &&& (2 : Int32)) = (0 : Int32)) then (1 : Int32) else (0 : Int32))), .val (.int (if ¬ ((x5 &&& (4 : Int32)) = (0 : Int32)) then (1 : Int32) else (0 : Int32))), .unset, .unset, .unset, .unset, .unset, .unset, .unset, .unset, .unset, .unset, .unset, .unset, .unset] [])) _
      refine XS.iconst X0.here hx rfl (hb hby at_50) ?_
      show Steps p.tables e below (s₁.setTop (mkF m 51 #[.val (.int x1), .val (.int x2), .val (.int x3), .val (.int x4), .val (.int x5), .val (.int (if ¬ ((x5 &&& (1 : Int32)) = (0 : Int32)) then (1 : Int32) else (0 : Int32))), .val (.int (if ¬ ((x5 &&& (2 : Int32)) = (0 : Int32)) then (1 : Int32) else (0 : Int32))), .val (.int (if ¬ ((x5 &&& (4 : Int32)) = (0 : Int32)) then (1 : Int32) else (0 : Int32))), .unset, .unset, .unset, .unset, .unset, .unset, .unset, .unset, .unset, .unset, .unset, .unset, .unset] [(.int (1 : Int32))])) _
      refine XS.goto X0.here hx rfl (pc0 := 51) (pc' := 55) rfl (hb hby at_51) (by decide) (by decide) ?_
      exact castTop (congrArg (fun z_ => (mkF m 55 #[.val (.int x1), .val (.int x2), .val (.int x3), .val (.int x4), .val (.int x5), .val (.int (if ¬ ((x5 &&& (1 : Int32)) = (0 : Int32)) then (1 : Int32) else (0 : Int32))), .val (.int (if ¬ ((x5 &&& (2 : Int32)) = (0 : Int32)) then (1 : Int32) else (0 : Int32))), .val (.int (if ¬ ((x5 &&& (4 : Int32)) = (0 : Int32)) then (1 : Int32) else (0 : Int32))), .unset, .unset, .unset, .unset, .unset, .unset, .unset, .unset, .unset, .unset, .unset, .unset, .unset] [(.int z_)])) (show (1 : Int32) = (if ¬ ((x5 &&& (8 : Int32)) = (0 : Int32)) then (1 : Int32) else (0 : Int32)) from by rw [if_pos hc7])) k)
  have pre10 : ∀ t, Steps p.tables e below (s₁.setTop (mkF m 100 #[.val (.int x1), .val (.int x2), .val (.int x3), .val (.int x4), .val (.int x5), .val (.int (if ¬ ((x5 &&& (1 : Int32)) = (0 : Int32)) then (1 : Int32) else (0 : Int32))), .val (.int (if ¬ ((x5 &&& (2 : Int32)) = (0 : Int32)) then (1 : Int32) else (0 : Int32))), .val (.int (if ¬ ((x5 &&& (4 : Int32)) = (0 : Int32)) then (1 : Int32) else (0 : Int32))), .val (.int (if ¬ ((x5 &&& (8 : Int32)) = (0 : Int32)) then (1 : Int32) else (0 : Int32))), .val (.int (((x5.toUInt32 >>> ((4 : Int32) &&& 31).toUInt32).toInt32) &&& (3 : Int32))), .val (.int (x1 &&& (255 : Int32))), .val (.int (((x1.toUInt32 >>> ((8 : Int32) &&& 31).toUInt32).toInt32) &&& (255 : Int32))), .unset, .unset, .unset, .unset, .unset, .unset, .unset, .unset, .unset] [(.int (if ¬ ((x5 &&& (4 : Int32)) = (0 : Int32)) then (x1 &&& (255 : Int32)) else (x2 &&& (255 : Int32))))])) t → Steps p.tables e below (s₁.setTop (entryFrame m #[(.int x1), (.int x2), (.int x3), (.int x4), (.int x5)] maxLocals)) t := fun t k => pre8 t (by
    show Steps p.tables e below (s₁.setTop (mkF m 55 #[.val (.int x1), .val (.int x2), .val (.int x3), .val (.int x4), .val (.int x5), .val (.int (if ¬ ((x5 &&& (1 : Int32)) = (0 : Int32)) then (1 : Int32) else (0 : Int32))), .val (.int (if ¬ ((x5 &&& (2 : Int32)) = (0 : Int32)) then (1 : Int32) else (0 : Int32))), .val (.int (if ¬ ((x5 &&& (4 : Int32)) = (0 : Int32)) then (1 : Int32) else (0 : Int32))), .unset, .unset, .unset, .unset, .unset, .unset, .unset, .unset, .unset, .unset, .unset, .unset, .unset] [(.int (if ¬ ((x5 &&& (8 : Int32)) = (0 : Int32)) then (1 : Int32) else (0 : Int32)))])) _
    refine XS.istore X0.here hx rfl (hb hby at_55) rfl (l' := #[.val (.int x1), .val (.int x2), .val (.int x3), .val (.int x4), .val (.int x5), .val (.int (if ¬ ((x5 &&& (1 : Int32)) = (0 : Int32)) then (1 : Int32) else (0 : Int32))), .val (.int (if ¬ ((x5 &&& (2 : Int32)) = (0 : Int32)) then (1 : Int32) else (0 : Int32))), .val (.int (if ¬ ((x5 &&& (4 : Int32)) = (0 : Int32)) then (1 : Int32) else (0 : Int32))), .val (.int (if ¬ ((x5 &&& (8 : Int32)) = (0 : Int32)) then (1 : Int32) else (0 : Int32))), .unset, .unset, .unset, .unset, .unset, .unset, .unset, .unset, .unset, .unset, .unset, .unset]) rfl ?_
    show Steps p.tables e below (s₁.setTop (mkF m 57 #[.val (.int x1), .val (.int x2), .val (.int x3), .val (.int x4), .val (.int x5), .val (.int (if ¬ ((x5 &&& (1 : Int32)) = (0 : Int32)) then (1 : Int32) else (0 : Int32))), .val (.int (if ¬ ((x5 &&& (2 : Int32)) = (0 : Int32)) then (1 : Int32) else (0 : Int32))), .val (.int (if ¬ ((x5 &&& (4 : Int32)) = (0 : Int32)) then (1 : Int32) else (0 : Int32))), .val (.int (if ¬ ((x5 &&& (8 : Int32)) = (0 : Int32)) then (1 : Int32) else (0 : Int32))), .unset, .unset, .unset, .unset, .unset, .unset, .unset, .unset, .unset, .unset, .unset, .unset] [])) _
    refine XS.iload X0.here hx rfl (hb hby at_57) rfl ?_
    show Steps p.tables e below (s₁.setTop (mkF m 59 #[.val (.int x1), .val (.int x2), .val (.int x3), .val (.int x4), .val (.int x5), .val (.int (if ¬ ((x5 &&& (1 : Int32)) = (0 : Int32)) then (1 : Int32) else (0 : Int32))), .val (.int (if ¬ ((x5 &&& (2 : Int32)) = (0 : Int32)) then (1 : Int32) else (0 : Int32))), .val (.int (if ¬ ((x5 &&& (4 : Int32)) = (0 : Int32)) then (1 : Int32) else (0 : Int32))), .val (.int (if ¬ ((x5 &&& (8 : Int32)) = (0 : Int32)) then (1 : Int32) else (0 : Int32))), .unset, .unset, .unset, .unset, .unset, .unset, .unset, .unset, .unset, .unset, .unset, .unset] [(.int x5)])) _
    refine XS.iconst X0.here hx rfl (hb hby at_59) ?_
    show Steps p.tables e below (s₁.setTop (mkF m 60 #[.val (.int x1), .val (.int x2), .val (.int x3), .val (.int x4), .val (.int x5), .val (.int (if ¬ ((x5 &&& (1 : Int32)) = (0 : Int32)) then (1 : Int32) else (0 : Int32))), .val (.int (if ¬ ((x5 &&& (2 : Int32)) = (0 : Int32)) then (1 : Int32) else (0 : Int32))), .val (.int (if ¬ ((x5 &&& (4 : Int32)) = (0 : Int32)) then (1 : Int32) else (0 : Int32))), .val (.int (if ¬ ((x5 &&& (8 : Int32)) = (0 : Int32)) then (1 : Int32) else (0 : Int32))), .unset, .unset, .unset, .unset, .unset, .unset, .unset, .unset, .unset, .unset, .unset, .unset] [(.int (4 : Int32)), (.int x5)])) _
    refine XS.iushr X0.here hx rfl (hb hby at_60) rfl ?_
    show Steps p.tables e below (s₁.setTop (mkF m 61 #[.val (.int x1), .val (.int x2), .val (.int x3), .val (.int x4), .val (.int x5), .val (.int (if ¬ ((x5 &&& (1 : Int32)) = (0 : Int32)) then (1 : Int32) else (0 : Int32))), .val (.int (if ¬ ((x5 &&& (2 : Int32)) = (0 : Int32)) then (1 : Int32) else (0 : Int32))), .val (.int (if ¬ ((x5 &&& (4 : Int32)) = (0 : Int32)) then (1 : Int32) else (0 : Int32))), .val (.int (if ¬ ((x5 &&& (8 : Int32)) = (0 : Int32)) then (1 : Int32) else (0 : Int32))), .unset, .unset, .unset, .unset, .unset, .unset, .unset, .unset, .unset, .unset, .unset, .unset] [(.int ((x5.toUInt32 >>> ((4 : Int32) &&& 31).toUInt32).toInt32))])) _
    refine XS.iconst X0.here hx rfl (hb hby at_61) ?_
    show Steps p.tables e below (s₁.setTop (mkF m 62 #[.val (.int x1), .val (.int x2), .val (.int x3), .val (.int x4), .val (.int x5), .val (.int (if ¬ ((x5 &&& (1 : Int32)) = (0 : Int32)) then (1 : Int32) else (0 : Int32))), .val (.int (if ¬ ((x5 &&& (2 : Int32)) = (0 : Int32)) then (1 : Int32) else (0 : Int32))), .val (.int (if ¬ ((x5 &&& (4 : Int32)) = (0 : Int32)) then (1 : Int32) else (0 : Int32))), .val (.int (if ¬ ((x5 &&& (8 : Int32)) = (0 : Int32)) then (1 : Int32) else (0 : Int32))), .unset, .unset, .unset, .unset, .unset, .unset, .unset, .unset, .unset, .unset, .unset, .unset] [(.int (3 : Int32)), (.int ((x5.toUInt32 >>> ((4 : Int32) &&& 31).toUInt32).toInt32))])) _
    refine XS.iand X0.here hx rfl (hb hby at_62) rfl ?_
    show Steps p.tables e below (s₁.setTop (mkF m 63 #[.val (.int x1), .val (.int x2), .val (.int x3), .val (.int x4), .val (.int x5), .val (.int (if ¬ ((x5 &&& (1 : Int32)) = (0 : Int32)) then (1 : Int32) else (0 : Int32))), .val (.int (if ¬ ((x5 &&& (2 : Int32)) = (0 : Int32)) then (1 : Int32) else (0 : Int32))), .val (.int (if ¬ ((x5 &&& (4 : Int32)) = (0 : Int32)) then (1 : Int32) else (0 : Int32))), .val (.int (if ¬ ((x5 &&& (8 : Int32)) = (0 : Int32)) then (1 : Int32) else (0 : Int32))), .unset, .unset, .unset, .unset, .unset, .unset, .unset, .unset, .unset, .unset, .unset, .unset] [(.int (((x5.toUInt32 >>> ((4 : Int32) &&& 31).toUInt32).toInt32) &&& (3 : Int32)))])) _
    refine XS.istore X0.here hx rfl (hb hby at_63) rfl (l' := #[.val (.int x1), .val (.int x2), .val (.int x3), .val (.int x4), .val (.int x5), .val (.int (if ¬ ((x5 &&& (1 : Int32)) = (0 : Int32)) then (1 : Int32) else (0 : Int32))), .val (.int (if ¬ ((x5 &&& (2 : Int32)) = (0 : Int32)) then (1 : Int32) else (0 : Int32))), .val (.int (if ¬ ((x5 &&& (4 : Int32)) = (0 : Int32)) then (1 : Int32) else (0 : Int32))), .val (.int (if ¬ ((x5 &&& (8 : Int32)) = (0 : Int32)) then (1 : Int32) else (0 : Int32))), .val (.int (((x5.toUInt32 >>> ((4 : Int32) &&& 31).toUInt32).toInt32) &&& (3 : Int32))), .unset, .unset, .unset, .unset, .unset, .unset, .unset, .unset, .unset, .unset, .unset]) rfl ?_
    show Steps p.tables e below (s₁.setTop (mkF m 65 #[.val (.int x1), .val (.int x2), .val (.int x3), .val (.int x4), .val (.int x5), .val (.int (if ¬ ((x5 &&& (1 : Int32)) = (0 : Int32)) then (1 : Int32) else (0 : Int32))), .val (.int (if ¬ ((x5 &&& (2 : Int32)) = (0 : Int32)) then (1 : Int32) else (0 : Int32))), .val (.int (if ¬ ((x5 &&& (4 : Int32)) = (0 : Int32)) then (1 : Int32) else (0 : Int32))), .val (.int (if ¬ ((x5 &&& (8 : Int32)) = (0 : Int32)) then (1 : Int32) else (0 : Int32))), .val (.int (((x5.toUInt32 >>> ((4 : Int32) &&& 31).toUInt32).toInt32) &&& (3 : Int32))), .unset, .unset, .unset, .unset, .unset, .unset, .unset, .unset, .unset, .unset, .unset] [])) _
    refine XS.iloadN X0.here hx rfl (hb hby at_65) rfl ?_
    show Steps p.tables e below (s₁.setTop (mkF m 66 #[.val (.int x1), .val (.int x2), .val (.int x3), .val (.int x4), .val (.int x5), .val (.int (if ¬ ((x5 &&& (1 : Int32)) = (0 : Int32)) then (1 : Int32) else (0 : Int32))), .val (.int (if ¬ ((x5 &&& (2 : Int32)) = (0 : Int32)) then (1 : Int32) else (0 : Int32))), .val (.int (if ¬ ((x5 &&& (4 : Int32)) = (0 : Int32)) then (1 : Int32) else (0 : Int32))), .val (.int (if ¬ ((x5 &&& (8 : Int32)) = (0 : Int32)) then (1 : Int32) else (0 : Int32))), .val (.int (((x5.toUInt32 >>> ((4 : Int32) &&& 31).toUInt32).toInt32) &&& (3 : Int32))), .unset, .unset, .unset, .unset, .unset, .unset, .unset, .unset, .unset, .unset, .unset] [(.int x1)])) _
    refine XS.sipush X0.here hx rfl (hb hby at_66) ?_
    show Steps p.tables e below (s₁.setTop (mkF m 69 #[.val (.int x1), .val (.int x2), .val (.int x3), .val (.int x4), .val (.int x5), .val (.int (if ¬ ((x5 &&& (1 : Int32)) = (0 : Int32)) then (1 : Int32) else (0 : Int32))), .val (.int (if ¬ ((x5 &&& (2 : Int32)) = (0 : Int32)) then (1 : Int32) else (0 : Int32))), .val (.int (if ¬ ((x5 &&& (4 : Int32)) = (0 : Int32)) then (1 : Int32) else (0 : Int32))), .val (.int (if ¬ ((x5 &&& (8 : Int32)) = (0 : Int32)) then (1 : Int32) else (0 : Int32))), .val (.int (((x5.toUInt32 >>> ((4 : Int32) &&& 31).toUInt32).toInt32) &&& (3 : Int32))), .unset, .unset, .unset, .unset, .unset, .unset, .unset, .unset, .unset, .unset, .unset] [(.int (255 : Int32)), (.int x1)])) _
    refine XS.iand X0.here hx rfl (hb hby at_69) rfl ?_
    show Steps p.tables e below (s₁.setTop (mkF m 70 #[.val (.int x1), .val (.int x2), .val (.int x3), .val (.int x4), .val (.int x5), .val (.int (if ¬ ((x5 &&& (1 : Int32)) = (0 : Int32)) then (1 : Int32) else (0 : Int32))), .val (.int (if ¬ ((x5 &&& (2 : Int32)) = (0 : Int32)) then (1 : Int32) else (0 : Int32))), .val (.int (if ¬ ((x5 &&& (4 : Int32)) = (0 : Int32)) then (1 : Int32) else (0 : Int32))), .val (.int (if ¬ ((x5 &&& (8 : Int32)) = (0 : Int32)) then (1 : Int32) else (0 : Int32))), .val (.int (((x5.toUInt32 >>> ((4 : Int32) &&& 31).toUInt32).toInt32) &&& (3 : Int32))), .unset, .unset, .unset, .unset, .unset, .unset, .unset, .unset, .unset, .unset, .unset] [(.int (x1 &&& (255 : Int32)))])) _
    refine XS.i2c X0.here hx rfl (hb hby at_70) rfl ?_
    rw [i2c_mask]
    show Steps p.tables e below (s₁.setTop (mkF m 71 #[.val (.int x1), .val (.int x2), .val (.int x3), .val (.int x4), .val (.int x5), .val (.int (if ¬ ((x5 &&& (1 : Int32)) = (0 : Int32)) then (1 : Int32) else (0 : Int32))), .val (.int (if ¬ ((x5 &&& (2 : Int32)) = (0 : Int32)) then (1 : Int32) else (0 : Int32))), .val (.int (if ¬ ((x5 &&& (4 : Int32)) = (0 : Int32)) then (1 : Int32) else (0 : Int32))), .val (.int (if ¬ ((x5 &&& (8 : Int32)) = (0 : Int32)) then (1 : Int32) else (0 : Int32))), .val (.int (((x5.toUInt32 >>> ((4 : Int32) &&& 31).toUInt32).toInt32) &&& (3 : Int32))), .unset, .unset, .unset, .unset, .unset, .unset, .unset, .unset, .unset, .unset, .unset] [(.int (x1 &&& (255 : Int32)))])) _
    refine XS.istore X0.here hx rfl (hb hby at_71) rfl (l' := #[.val (.int x1), .val (.int x2), .val (.int x3), .val (.int x4), .val (.int x5), .val (.int (if ¬ ((x5 &&& (1 : Int32)) = (0 : Int32)) then (1 : Int32) else (0 : Int32))), .val (.int (if ¬ ((x5 &&& (2 : Int32)) = (0 : Int32)) then (1 : Int32) else (0 : Int32))), .val (.int (if ¬ ((x5 &&& (4 : Int32)) = (0 : Int32)) then (1 : Int32) else (0 : Int32))), .val (.int (if ¬ ((x5 &&& (8 : Int32)) = (0 : Int32)) then (1 : Int32) else (0 : Int32))), .val (.int (((x5.toUInt32 >>> ((4 : Int32) &&& 31).toUInt32).toInt32) &&& (3 : Int32))), .val (.int (x1 &&& (255 : Int32))), .unset, .unset, .unset, .unset, .unset, .unset, .unset, .unset, .unset, .unset]) rfl ?_
    show Steps p.tables e below (s₁.setTop (mkF m 73 #[.val (.int x1), .val (.int x2), .val (.int x3), .val (.int x4), .val (.int x5), .val (.int (if ¬ ((x5 &&& (1 : Int32)) = (0 : Int32)) then (1 : Int32) else (0 : Int32))), .val (.int (if ¬ ((x5 &&& (2 : Int32)) = (0 : Int32)) then (1 : Int32) else (0 : Int32))), .val (.int (if ¬ ((x5 &&& (4 : Int32)) = (0 : Int32)) then (1 : Int32) else (0 : Int32))), .val (.int (if ¬ ((x5 &&& (8 : Int32)) = (0 : Int32)) then (1 : Int32) else (0 : Int32))), .val (.int (((x5.toUInt32 >>> ((4 : Int32) &&& 31).toUInt32).toInt32) &&& (3 : Int32))), .val (.int (x1 &&& (255 : Int32))), .unset, .unset, .unset, .unset, .unset, .unset, .unset, .unset, .unset, .unset] [])) _
    refine XS.iloadN X0.here hx rfl (hb hby at_73) rfl ?_
    show Steps p.tables e below (s₁.setTop (mkF m 74 #[.val (.int x1), .val (.int x2), .val (.int x3), .val (.int x4), .val (.int x5), .val (.int (if ¬ ((x5 &&& (1 : Int32)) = (0 : Int32)) then (1 : Int32) else (0 : Int32))), .val (.int (if ¬ ((x5 &&& (2 : Int32)) = (0 : Int32)) then (1 : Int32) else (0 : Int32))), .val (.int (if ¬ ((x5 &&& (4 : Int32)) = (0 : Int32)) then (1 : Int32) else (0 : Int32))), .val (.int (if ¬ ((x5 &&& (8 : Int32)) = (0 : Int32)) then (1 : Int32) else (0 : Int32))), .val (.int (((x5.toUInt32 >>> ((4 : Int32) &&& 31).toUInt32).toInt32) &&& (3 : Int32))), .val (.int (x1 &&& (255 : Int32))), .unset, .unset, .unset, .unset, .unset, .unset, .unset, .unset, .unset, .unset] [(.int x1)])) _
    refine XS.bipush X0.here hx rfl (hb hby at_74) ?_
    show Steps p.tables e below (s₁.setTop (mkF m 76 #[.val (.int x1), .val (.int x2), .val (.int x3), .val (.int x4), .val (.int x5), .val (.int (if ¬ ((x5 &&& (1 : Int32)) = (0 : Int32)) then (1 : Int32) else (0 : Int32))), .val (.int (if ¬ ((x5 &&& (2 : Int32)) = (0 : Int32)) then (1 : Int32) else (0 : Int32))), .val (.int (if ¬ ((x5 &&& (4 : Int32)) = (0 : Int32)) then (1 : Int32) else (0 : Int32))), .val (.int (if ¬ ((x5 &&& (8 : Int32)) = (0 : Int32)) then (1 : Int32) else (0 : Int32))), .val (.int (((x5.toUInt32 >>> ((4 : Int32) &&& 31).toUInt32).toInt32) &&& (3 : Int32))), .val (.int (x1 &&& (255 : Int32))), .unset, .unset, .unset, .unset, .unset, .unset, .unset, .unset, .unset, .unset] [(.int (8 : Int32)), (.int x1)])) _
    refine XS.iushr X0.here hx rfl (hb hby at_76) rfl ?_
    show Steps p.tables e below (s₁.setTop (mkF m 77 #[.val (.int x1), .val (.int x2), .val (.int x3), .val (.int x4), .val (.int x5), .val (.int (if ¬ ((x5 &&& (1 : Int32)) = (0 : Int32)) then (1 : Int32) else (0 : Int32))), .val (.int (if ¬ ((x5 &&& (2 : Int32)) = (0 : Int32)) then (1 : Int32) else (0 : Int32))), .val (.int (if ¬ ((x5 &&& (4 : Int32)) = (0 : Int32)) then (1 : Int32) else (0 : Int32))), .val (.int (if ¬ ((x5 &&& (8 : Int32)) = (0 : Int32)) then (1 : Int32) else (0 : Int32))), .val (.int (((x5.toUInt32 >>> ((4 : Int32) &&& 31).toUInt32).toInt32) &&& (3 : Int32))), .val (.int (x1 &&& (255 : Int32))), .unset, .unset, .unset, .unset, .unset, .unset, .unset, .unset, .unset, .unset] [(.int ((x1.toUInt32 >>> ((8 : Int32) &&& 31).toUInt32).toInt32))])) _
    refine XS.sipush X0.here hx rfl (hb hby at_77) ?_
    show Steps p.tables e below (s₁.setTop (mkF m 80 #[.val (.int x1), .val (.int x2), .val (.int x3), .val (.int x4), .val (.int x5), .val (.int (if ¬ ((x5 &&& (1 : Int32)) = (0 : Int32)) then (1 : Int32) else (0 : Int32))), .val (.int (if ¬ ((x5 &&& (2 : Int32)) = (0 : Int32)) then (1 : Int32) else (0 : Int32))), .val (.int (if ¬ ((x5 &&& (4 : Int32)) = (0 : Int32)) then (1 : Int32) else (0 : Int32))), .val (.int (if ¬ ((x5 &&& (8 : Int32)) = (0 : Int32)) then (1 : Int32) else (0 : Int32))), .val (.int (((x5.toUInt32 >>> ((4 : Int32) &&& 31).toUInt32).toInt32) &&& (3 : Int32))), .val (.int (x1 &&& (255 : Int32))), .unset, .unset, .unset, .unset, .unset, .unset, .unset, .unset, .unset, .unset] [(.int (255 : Int32)), (.int ((x1.toUInt32 >>> ((8 : Int32) &&& 31).toUInt32).toInt32))])) _
    refine XS.iand X0.here hx rfl (hb hby at_80) rfl ?_
    show Steps p.tables e below (s₁.setTop (mkF m 81 #[.val (.int x1), .val (.int x2), .val (.int x3), .val (.int x4), .val (.int x5), .val (.int (if ¬ ((x5 &&& (1 : Int32)) = (0 : Int32)) then (1 : Int32) else (0 : Int32))), .val (.int (if ¬ ((x5 &&& (2 : Int32)) = (0 : Int32)) then (1 : Int32) else (0 : Int32))), .val (.int (if ¬ ((x5 &&& (4 : Int32)) = (0 : Int32)) then (1 : Int32) else (0 : Int32))), .val (.int (if ¬ ((x5 &&& (8 : Int32)) = (0 : Int32)) then (1 : Int32) else (0 : Int32))), .val (.int (((x5.toUInt32 >>> ((4 : Int32) &&& 31).toUInt32).toInt32) &&& (3 : Int32))), .val (.int (x1 &&& (255 : Int32))), .unset, .unset, .unset, .unset, .unset, .unset, .unset, .unset, .unset, .unset] [(.int (((x1.toUInt32 >>> ((8 : Int32) &&& 31).toUInt32).toInt32) &&& (255 : Int32)))])) _
    refine XS.i2c X0.here hx rfl (hb hby at_81) rfl ?_
    rw [i2c_mask]
    show Steps p.tables e below (s₁.setTop (mkF m 82 #[.val (.int x1), .val (.int x2), .val (.int x3), .val (.int x4), .val (.int x5), .val (.int (if ¬ ((x5 &&& (1 : Int32)) = (0 : Int32)) then (1 : Int32) else (0 : Int32))), .val (.int (if ¬ ((x5 &&& (2 : Int32)) = (0 : Int32)) then (1 : Int32) else (0 : Int32))), .val (.int (if ¬ ((x5 &&& (4 : Int32)) = (0 : Int32)) then (1 : Int32) else (0 : Int32))), .val (.int (if ¬ ((x5 &&& (8 : Int32)) = (0 : Int32)) then (1 : Int32) else (0 : Int32))), .val (.int (((x5.toUInt32 >>> ((4 : Int32) &&& 31).toUInt32).toInt32) &&& (3 : Int32))), .val (.int (x1 &&& (255 : Int32))), .unset, .unset, .unset, .unset, .unset, .unset, .unset, .unset, .unset, .unset] [(.int (((x1.toUInt32 >>> ((8 : Int32) &&& 31).toUInt32).toInt32) &&& (255 : Int32)))])) _
    refine XS.istore X0.here hx rfl (hb hby at_82) rfl (l' := #[.val (.int x1), .val (.int x2), .val (.int x3), .val (.int x4), .val (.int x5), .val (.int (if ¬ ((x5 &&& (1 : Int32)) = (0 : Int32)) then (1 : Int32) else (0 : Int32))), .val (.int (if ¬ ((x5 &&& (2 : Int32)) = (0 : Int32)) then (1 : Int32) else (0 : Int32))), .val (.int (if ¬ ((x5 &&& (4 : Int32)) = (0 : Int32)) then (1 : Int32) else (0 : Int32))), .val (.int (if ¬ ((x5 &&& (8 : Int32)) = (0 : Int32)) then (1 : Int32) else (0 : Int32))), .val (.int (((x5.toUInt32 >>> ((4 : Int32) &&& 31).toUInt32).toInt32) &&& (3 : Int32))), .val (.int (x1 &&& (255 : Int32))), .val (.int (((x1.toUInt32 >>> ((8 : Int32) &&& 31).toUInt32).toInt32) &&& (255 : Int32))), .unset, .unset, .unset, .unset, .unset, .unset, .unset, .unset, .unset]) rfl ?_
    show Steps p.tables e below (s₁.setTop (mkF m 84 #[.val (.int x1), .val (.int x2), .val (.int x3), .val (.int x4), .val (.int x5), .val (.int (if ¬ ((x5 &&& (1 : Int32)) = (0 : Int32)) then (1 : Int32) else (0 : Int32))), .val (.int (if ¬ ((x5 &&& (2 : Int32)) = (0 : Int32)) then (1 : Int32) else (0 : Int32))), .val (.int (if ¬ ((x5 &&& (4 : Int32)) = (0 : Int32)) then (1 : Int32) else (0 : Int32))), .val (.int (if ¬ ((x5 &&& (8 : Int32)) = (0 : Int32)) then (1 : Int32) else (0 : Int32))), .val (.int (((x5.toUInt32 >>> ((4 : Int32) &&& 31).toUInt32).toInt32) &&& (3 : Int32))), .val (.int (x1 &&& (255 : Int32))), .val (.int (((x1.toUInt32 >>> ((8 : Int32) &&& 31).toUInt32).toInt32) &&& (255 : Int32))), .unset, .unset, .unset, .unset, .unset, .unset, .unset, .unset, .unset] [])) _
    refine XS.iload X0.here hx rfl (hb hby at_84) rfl ?_
    show Steps p.tables e below (s₁.setTop (mkF m 86 #[.val (.int x1), .val (.int x2), .val (.int x3), .val (.int x4), .val (.int x5), .val (.int (if ¬ ((x5 &&& (1 : Int32)) = (0 : Int32)) then (1 : Int32) else (0 : Int32))), .val (.int (if ¬ ((x5 &&& (2 : Int32)) = (0 : Int32)) then (1 : Int32) else (0 : Int32))), .val (.int (if ¬ ((x5 &&& (4 : Int32)) = (0 : Int32)) then (1 : Int32) else (0 : Int32))), .val (.int (if ¬ ((x5 &&& (8 : Int32)) = (0 : Int32)) then (1 : Int32) else (0 : Int32))), .val (.int (((x5.toUInt32 >>> ((4 : Int32) &&& 31).toUInt32).toInt32) &&& (3 : Int32))), .val (.int (x1 &&& (255 : Int32))), .val (.int (((x1.toUInt32 >>> ((8 : Int32) &&& 31).toUInt32).toInt32) &&& (255 : Int32))), .unset, .unset, .unset, .unset, .unset, .unset, .unset, .unset, .unset] [(.int (if ¬ ((x5 &&& (4 : Int32)) = (0 : Int32)) then (1 : Int32) else (0 : Int32)))])) _
    by_cases hc9 : ¬ ((x5 &&& (4 : Int32)) = (0 : Int32))
    · skip
      refine XS.ifNo X0.here hx rfl (hb hby at_86) rfl ((if0 _ _).trans (feq (fun q => absurd ((if_pos hc9).symm.trans q) (by decide))).1) ?_
      show Steps p.tables e below (s₁.setTop (mkF m 89 #[.val (.int x1), .val (.int x2), .val (.int x3), .val (.int x4), .val (.int x5), .val (.int (if ¬ ((x5 &&& (1 : Int32)) = (0 : Int32)) then (1 : Int32) else (0 : Int32))), .val (.int (if ¬ ((x5 &&& (2 : Int32)) = (0 : Int32)) then (1 : Int32) else (0 : Int32))), .val (.int (if ¬ ((x5 &&& (4 : Int32)) = (0 : Int32)) then (1 : Int32) else (0 : Int32))), .val (.int (if ¬ ((x5 &&& (8 : Int32)) = (0 : Int32)) then (1 : Int32) else (0 : Int32))), .val (.int (((x5.toUInt32 >>> ((4 : Int32) &&& 31).toUInt32).toInt32) &&& (3 : Int32))), .val (.int (x1 &&& (255 : Int32))), .val (.int (((x1.toUInt32 >>> ((8 : Int32) &&& 31).toUInt32).toInt32) &&& (255 : Int32))), .unset, .unset, .unset, .unset, .unset, .unset, .unset, .unset, .unset] [])) _
      refine XS.iload X0.here hx rfl (hb hby at_89) rfl ?_
      show Steps p.tables e below (s₁.setTop (mkF m 91 #[.val (.int x1), .val (.int x2), .val (.int x3), .val (.int x4), .val (.int x5), .val (.int (if ¬ ((x5 &&& (1 : Int32)) = (0 : Int32)) then (1 : Int32) else (0 : Int32))), .val (.int (if ¬ ((x5 &&& (2 : Int32)) = (0 : Int32)) then (1 : Int32) else (0 : Int32))), .val (.int (if ¬ ((x5 &&& (4 : Int32)) = (0 : Int32)) then (1 : Int32) else (0 : Int32))), .val (.int (if ¬ ((x5 &&& (8 : Int32)) = (0 : Int32)) then (1 : Int32) else (0 : Int32))), .val (.int (((x5.toUInt32 >>> ((4 : Int32) &&& 31).toUInt32).toInt32) &&& (3 : Int32))), .val (.int (x1 &&& (255 : Int32))), .val (.int (((x1.toUInt32 >>> ((8 : Int32) &&& 31).toUInt32).toInt32) &&& (255 : Int32))), .unset, .unset, .unset, .unset, .unset, .unset, .unset, .unset, .unset] [(.int (x1 &&& (255 : Int32)))])) _
      refine XS.goto X0.here hx rfl (pc0 := 91) (pc' := 100) rfl (hb hby at_91) (by decide) (by decide) ?_
      exact castTop (congrArg (fun z_ => (mkF m 100 #[.val (.int x1), .val (.int x2), .val (.int x3), .val (.int x4), .val (.int x5), .val (.int (if ¬ ((x5 &&& (1 : Int32)) = (0 : Int32)) then (1 : Int32) else (0 : Int32))), .val (.int (if ¬ ((x5 &&& (2 : Int32)) = (0 : Int32)) then (1 : Int32) else (0 : Int32))), .val (.int (if ¬ ((x5 &&& (4 : Int32)) = (0 : Int32)) then (1 : Int32) else (0 : Int32))), .val (.int (if ¬ ((x5 &&& (8 : Int32)) = (0 : Int32)) then (1 : Int32) else (0 : Int32))), .val (.int (((x5.toUInt32 >>> ((4 : Int32) &&& 31).toUInt32).toInt32) &&& (3 : Int32))), .val (.int (x1 &&& (255 : Int32))), .val (.int (((x1.toUInt32 >>> ((8 : Int32) &&& 31).toUInt32).toInt32) &&& (255 : Int32))), .unset, .unset, .unset, .unset, .unset, .unset, .unset, .unset, .unset] [(.int z_)])) (show (x1 &&& (255 : Int32)) = (if ¬ ((x5 &&& (4 : Int32)) = (0 : Int32)) then (x1 &&& (255 : Int32)) else (x2 &&& (255 : Int32))) from by rw [if_pos hc9])) k
    · skip
      refine XS.ifYes X0.here hx rfl (pc0 := 86) (pc' := 94) rfl (hb hby at_86) rfl ((if0 _ _).trans (teq (if_neg hc9)).1) (by decide) (by decide) ?_
      show Steps p.tables e below (s₁.setTop (mkF m 94 #[.val (.int x1), .val (.int x2), .val (.int x3), .val (.int x4), .val (.int x5), .val (.int (if ¬ ((x5 &&& (1 : Int32)) = (0 : Int32)) then (1 : Int32) else (0 : Int32))), .val (.int (if ¬ ((x5 &&& (2 : Int32)) = (0 : Int32)) then (1 : Int32) else (0 : Int32))), .val (.int (if ¬ ((x5 &&& (4 : Int32)) = (0 : Int32)) then (1 : Int32) else (0 : Int32))), .val (.int (if ¬ ((x5 &&& (8 : Int32)) = (0 : Int32)) then (1 : Int32) else (0 : Int32))), .val (.int (((x5.toUInt32 >>> ((4 : Int32) &&& 31).toUInt32).toInt32) &&& (3 : Int32))), .val (.int (x1 &&& (255 : Int32))), .val (.int (((x1.toUInt32 >>> ((8 : Int32) &&& 31).toUInt32).toInt32) &&& (255 : Int32))), .unset, .unset, .unset, .unset, .unset, .unset, .unset, .unset, .unset] [])) _
      refine XS.iloadN X0.here hx rfl (hb hby at_94) rfl ?_
      show Steps p.tables e below (s₁.setTop (mkF m 95 #[.val (.int x1), .val (.int x2), .val (.int x3), .val (.int x4), .val (.int x5), .val (.int (if ¬ ((x5 &&& (1 : Int32)) = (0 : Int32)) then (1 : Int32) else (0 : Int32))), .val (.int (if ¬ ((x5 &&& (2 : Int32)) = (0 : Int32)) then (1 : Int32) else (0 : Int32))), .val (.int (if ¬ ((x5 &&& (4 : Int32)) = (0 : Int32)) then (1 : Int32) else (0 : Int32))), .val (.int (if ¬ ((x5 &&& (8 : Int32)) = (0 : Int32)) then (1 : Int32) else (0 : Int32))), .val (.int (((x5.toUInt32 >>> ((4 : Int32) &&& 31).toUInt32).toInt32) &&& (3 : Int32))), .val (.int (x1 &&& (255 : Int32))), .val (.int (((x1.toUInt32 >>> ((8 : Int32) &&& 31).toUInt32).toInt32) &&& (255 : Int32))), .unset, .unset, .unset, .unset, .unset, .unset, .unset, .unset, .unset] [(.int x2)])) _
      refine XS.sipush X0.here hx rfl (hb hby at_95) ?_
      show Steps p.tables e below (s₁.setTop (mkF m 98 #[.val (.int x1), .val (.int x2), .val (.int x3), .val (.int x4), .val (.int x5), .val (.int (if ¬ ((x5 &&& (1 : Int32)) = (0 : Int32)) then (1 : Int32) else (0 : Int32))), .val (.int (if ¬ ((x5 &&& (2 : Int32)) = (0 : Int32)) then (1 : Int32) else (0 : Int32))), .val (.int (if ¬ ((x5 &&& (4 : Int32)) = (0 : Int32)) then (1 : Int32) else (0 : Int32))), .val (.int (if ¬ ((x5 &&& (8 : Int32)) = (0 : Int32)) then (1 : Int32) else (0 : Int32))), .val (.int (((x5.toUInt32 >>> ((4 : Int32) &&& 31).toUInt32).toInt32) &&& (3 : Int32))), .val (.int (x1 &&& (255 : Int32))), .val (.int (((x1.toUInt32 >>> ((8 : Int32) &&& 31).toUInt32).toInt32) &&& (255 : Int32))), .unset, .unset, .unset, .unset, .unset, .unset, .unset, .unset, .unset] [(.int (255 : Int32)), (.int x2)])) _
      refine XS.iand X0.here hx rfl (hb hby at_98) rfl ?_
      show Steps p.tables e below (s₁.setTop (mkF m 99 #[.val (.int x1), .val (.int x2), .val (.int x3), .val (.int x4), .val (.int x5), .val (.int (if ¬ ((x5 &&& (1 : Int32)) = (0 : Int32)) then (1 : Int32) else (0 : Int32))), .val (.int (if ¬ ((x5 &&& (2 : Int32)) = (0 : Int32)) then (1 : Int32) else (0 : Int32))), .val (.int (if ¬ ((x5 &&& (4 : Int32)) = (0 : Int32)) then (1 : Int32) else (0 : Int32))), .val (.int (if ¬ ((x5 &&& (8 : Int32)) = (0 : Int32)) then (1 : Int32) else (0 : Int32))), .val (.int (((x5.toUInt32 >>> ((4 : Int32) &&& 31).toUInt32).toInt32) &&& (3 : Int32))), .val (.int (x1 &&& (255 : Int32))), .val (.int (((x1.toUInt32 >>> ((8 : Int32) &&& 31).toUInt32).toInt32) &&& (255 : Int32))), .unset, .unset, .unset, .unset, .unset, .unset, .unset, .unset, .unset] [(.int (x2 &&& (255 : Int32)))])) _
      refine XS.i2c X0.here hx rfl (hb hby at_99) rfl ?_
      rw [i2c_mask]
      exact castTop (congrArg (fun z_ => (mkF m 100 #[.val (.int x1), .val (.int x2), .val (.int x3), .val (.int x4), .val (.int x5), .val (.int (if ¬ ((x5 &&& (1 : Int32)) = (0 : Int32)) then (1 : Int32) else (0 : Int32))), .val (.int (if ¬ ((x5 &&& (2 : Int32)) = (0 : Int32)) then (1 : Int32) else (0 : Int32))), .val (.int (if ¬ ((x5 &&& (4 : Int32)) = (0 : Int32)) then (1 : Int32) else (0 : Int32))), .val (.int (if ¬ ((x5 &&& (8 : Int32)) = (0 : Int32)) then (1 : Int32) else (0 : Int32))), .val (.int (((x5.toUInt32 >>> ((4 : Int32) &&& 31).toUInt32).toInt32) &&& (3 : Int32))), .val (.int (x1 &&& (255 : Int32))), .val (.int (((x1.toUInt32 >>> ((8 : Int32) &&& 31).toUInt32).toInt32) &&& (255 : Int32))), .unset, .unset, .unset, .unset, .unset, .unset, .unset, .unset, .unset] [(.int z_)])) (show (x2 &&& (255 : Int32)) = (if ¬ ((x5 &&& (4 : Int32)) = (0 : Int32)) then (x1 &&& (255 : Int32)) else (x2 &&& (255 : Int32))) from by rw [if_neg hc9])) k)
  have pre12 : ∀ t, Steps p.tables e below (s₁.setTop (mkF m 121 #[.val (.int x1), .val (.int x2), .val (.int x3), .val (.int x4), .val (.int x5), .val (.int (if ¬ ((x5 &&& (1 : Int32)) = (0 : Int32)) then (1 : Int32) else (0 : Int32))), .val (.int (if ¬ ((x5 &&& (2 : Int32)) = (0 : Int32)) then (1 : Int32) else (0 : Int32))), .val (.int (if ¬ ((x5 &&& (4 : Int32)) = (0 : Int32)) then (1 : Int32) else (0 : Int32))), .val (.int (if ¬ ((x5 &&& (8 : Int32)) = (0 : Int32)) then (1 : Int32) else (0 : Int32))), .val (.int (((x5.toUInt32 >>> ((4 : Int32) &&& 31).toUInt32).toInt32) &&& (3 : Int32))), .val (.int (x1 &&& (255 : Int32))), .val (.int (((x1.toUInt32 >>> ((8 : Int32) &&& 31).toUInt32).toInt32) &&& (255 : Int32))), .val (.int (if ¬ ((x5 &&& (4 : Int32)) = (0 : Int32)) then (x1 &&& (255 : Int32)) else (x2 &&& (255 : Int32)))), .unset, .unset, .unset, .unset, .unset, .unset, .unset, .unset] [(.int (if ¬ ((x5 &&& (4 : Int32)) = (0 : Int32)) then (((x1.toUInt32 >>> ((8 : Int32) &&& 31).toUInt32).toInt32) &&& (255 : Int32)) else (((x2.toUInt32 >>> ((8 : Int32) &&& 31).toUInt32).toInt32) &&& (255 : Int32))))])) t → Steps p.tables e below (s₁.setTop (entryFrame m #[(.int x1), (.int x2), (.int x3), (.int x4), (.int x5)] maxLocals)) t := fun t k => pre10 t (by
    show Steps p.tables e below (s₁.setTop (mkF m 100 #[.val (.int x1), .val (.int x2), .val (.int x3), .val (.int x4), .val (.int x5), .val (.int (if ¬ ((x5 &&& (1 : Int32)) = (0 : Int32)) then (1 : Int32) else (0 : Int32))), .val (.int (if ¬ ((x5 &&& (2 : Int32)) = (0 : Int32)) then (1 : Int32) else (0 : Int32))), .val (.int (if ¬ ((x5 &&& (4 : Int32)) = (0 : Int32)) then (1 : Int32) else (0 : Int32))), .val (.int (if ¬ ((x5 &&& (8 : Int32)) = (0 : Int32)) then (1 : Int32) else (0 : Int32))), .val (.int (((x5.toUInt32 >>> ((4 : Int32) &&& 31).toUInt32).toInt32) &&& (3 : Int32))), .val (.int (x1 &&& (255 : Int32))), .val (.int (((x1.toUInt32 >>> ((8 : Int32) &&& 31).toUInt32).toInt32) &&& (255 : Int32))), .unset, .unset, .unset, .unset, .unset, .unset, .unset, .unset, .unset] [(.int (if ¬ ((x5 &&& (4 : Int32)) = (0 : Int32)) then (x1 &&& (255 : Int32)) else (x2 &&& (255 : Int32))))])) _
    refine XS.istore X0.here hx rfl (hb hby at_100) rfl (l' := #[.val (.int x1), .val (.int x2), .val (.int x3), .val (.int x4), .val (.int x5), .val (.int (if ¬ ((x5 &&& (1 : Int32)) = (0 : Int32)) then (1 : Int32) else (0 : Int32))), .val (.int (if ¬ ((x5 &&& (2 : Int32)) = (0 : Int32)) then (1 : Int32) else (0 : Int32))), .val (.int (if ¬ ((x5 &&& (4 : Int32)) = (0 : Int32)) then (1 : Int32) else (0 : Int32))), .val (.int (if ¬ ((x5 &&& (8 : Int32)) = (0 : Int32)) then (1 : Int32) else (0 : Int32))), .val (.int (((x5.toUInt32 >>> ((4 : Int32) &&& 31).toUInt32).toInt32) &&& (3 : Int32))), .val (.int (x1 &&& (255 : Int32))), .val (.int (((x1.toUInt32 >>> ((8 : Int32) &&& 31).toUInt32).toInt32) &&& (255 : Int32))), .val (.int (if ¬ ((x5 &&& (4 : Int32)) = (0 : Int32)) then (x1 &&& (255 : Int32)) else (x2 &&& (255 : Int32)))), .unset, .unset, .unset, .unset, .unset, .unset, .unset, .unset]) rfl ?_
    show Steps p.tables e below (s₁.setTop (mkF m 102 #[.val (.int x1), .val (.int x2), .val (.int x3), .val (.int x4), .val (.int x5), .val (.int (if ¬ ((x5 &&& (1 : Int32)) = (0 : Int32)) then (1 : Int32) else (0 : Int32))), .val (.int (if ¬ ((x5 &&& (2 : Int32)) = (0 : Int32)) then (1 : Int32) else (0 : Int32))), .val (.int (if ¬ ((x5 &&& (4 : Int32)) = (0 : Int32)) then (1 : Int32) else (0 : Int32))), .val (.int (if ¬ ((x5 &&& (8 : Int32)) = (0 : Int32)) then (1 : Int32) else (0 : Int32))), .val (.int (((x5.toUInt32 >>> ((4 : Int32) &&& 31).toUInt32).toInt32) &&& (3 : Int32))), .val (.int (x1 &&& (255 : Int32))), .val (.int (((x1.toUInt32 >>> ((8 : Int32) &&& 31).toUInt32).toInt32) &&& (255 : Int32))), .val (.int (if ¬ ((x5 &&& (4 : Int32)) = (0 : Int32)) then (x1 &&& (255 : Int32)) else (x2 &&& (255 : Int32)))), .unset, .unset, .unset, .unset, .unset, .unset, .unset, .unset] [])) _
    refine XS.iload X0.here hx rfl (hb hby at_102) rfl ?_
    show Steps p.tables e below (s₁.setTop (mkF m 104 #[.val (.int x1), .val (.int x2), .val (.int x3), .val (.int x4), .val (.int x5), .val (.int (if ¬ ((x5 &&& (1 : Int32)) = (0 : Int32)) then (1 : Int32) else (0 : Int32))), .val (.int (if ¬ ((x5 &&& (2 : Int32)) = (0 : Int32)) then (1 : Int32) else (0 : Int32))), .val (.int (if ¬ ((x5 &&& (4 : Int32)) = (0 : Int32)) then (1 : Int32) else (0 : Int32))), .val (.int (if ¬ ((x5 &&& (8 : Int32)) = (0 : Int32)) then (1 : Int32) else (0 : Int32))), .val (.int (((x5.toUInt32 >>> ((4 : Int32) &&& 31).toUInt32).toInt32) &&& (3 : Int32))), .val (.int (x1 &&& (255 : Int32))), .val (.int (((x1.toUInt32 >>> ((8 : Int32) &&& 31).toUInt32).toInt32) &&& (255 : Int32))), .val (.int (if ¬ ((x5 &&& (4 : Int32)) = (0 : Int32)) then (x1 &&& (255 : Int32)) else (x2 &&& (255 : Int32)))), .unset, .unset, .unset, .unset, .unset, .unset, .unset, .unset] [(.int (if ¬ ((x5 &&& (4 : Int32)) = (0 : Int32)) then (1 : Int32) else (0 : Int32)))])) _
    by_cases hc11 : ¬ ((x5 &&& (4 : Int32)) = (0 : Int32))
    · skip
      refine XS.ifNo X0.here hx rfl (hb hby at_104) rfl ((if0 _ _).trans (feq (fun q => absurd ((if_pos hc11).symm.trans q) (by decide))).1) ?_
      show Steps p.tables e below (s₁.setTop (mkF m 107 #[.val (.int x1), .val (.int x2), .val (.int x3), .val (.int x4), .val (.int x5), .val (.int (if ¬ ((x5 &&& (1 : Int32)) = (0 : Int32)) then (1 : Int32) else (0 : Int32))), .val (.int (if ¬ ((x5 &&& (2 : Int32)) = (0 : Int32)) then (1 : Int32) else (0 : Int32))), .val (.int (if ¬ ((x5 &&& (4 : Int32)) = (0 : Int32)) then (1 : Int32) else (0 : Int32))), .val (.int (if ¬ ((x5 &&& (8 : Int32)) = (0 : Int32)) then (1 : Int32) else (0 : Int32))), .val (.int (((x5.toUInt32 >>> ((4 : Int32) &&& 31).toUInt32).toInt32) &&& (3 : Int32))), .val (.int (x1 &&& (255 : Int32))), .val (.int (((x1.toUInt32 >>> ((8 : Int32) &&& 31).toUInt32).toInt32) &&& (255 : Int32))), .val (.int (if ¬ ((x5 &&& (4 : Int32)) = (0 : Int32)) then (x1 &&& (255 : Int32)) else (x2 &&& (255 : Int32)))), .unset, .unset, .unset, .unset, .unset, .unset, .unset, .unset] [])) _
      refine XS.iload X0.here hx rfl (hb hby at_107) rfl ?_
      show Steps p.tables e below (s₁.setTop (mkF m 109 #[.val (.int x1), .val (.int x2), .val (.int x3), .val (.int x4), .val (.int x5), .val (.int (if ¬ ((x5 &&& (1 : Int32)) = (0 : Int32)) then (1 : Int32) else (0 : Int32))), .val (.int (if ¬ ((x5 &&& (2 : Int32)) = (0 : Int32)) then (1 : Int32) else (0 : Int32))), .val (.int (if ¬ ((x5 &&& (4 : Int32)) = (0 : Int32)) then (1 : Int32) else (0 : Int32))), .val (.int (if ¬ ((x5 &&& (8 : Int32)) = (0 : Int32)) then (1 : Int32) else (0 : Int32))), .val (.int (((x5.toUInt32 >>> ((4 : Int32) &&& 31).toUInt32).toInt32) &&& (3 : Int32))), .val (.int (x1 &&& (255 : Int32))), .val (.int (((x1.toUInt32 >>> ((8 : Int32) &&& 31).toUInt32).toInt32) &&& (255 : Int32))), .val (.int (if ¬ ((x5 &&& (4 : Int32)) = (0 : Int32)) then (x1 &&& (255 : Int32)) else (x2 &&& (255 : Int32)))), .unset, .unset, .unset, .unset, .unset, .unset, .unset, .unset] [(.int (((x1.toUInt32 >>> ((8 : Int32) &&& 31).toUInt32).toInt32) &&& (255 : Int32)))])) _
      refine XS.goto X0.here hx rfl (pc0 := 109) (pc' := 121) rfl (hb hby at_109) (by decide) (by decide) ?_
      exact castTop (congrArg (fun z_ => (mkF m 121 #[.val (.int x1), .val (.int x2), .val (.int x3), .val (.int x4), .val (.int x5), .val (.int (if ¬ ((x5 &&& (1 : Int32)) = (0 : Int32)) then (1 : Int32) else (0 : Int32))), .val (.int (if ¬ ((x5 &&& (2 : Int32)) = (0 : Int32)) then (1 : Int32) else (0 : Int32))), .val (.int (if ¬ ((x5 &&& (4 : Int32)) = (0 : Int32)) then (1 : Int32) else (0 : Int32))), .val (.int (if ¬ ((x5 &&& (8 : Int32)) = (0 : Int32)) then (1 : Int32) else (0 : Int32))), .val (.int (((x5.toUInt32 >>> ((4 : Int32) &&& 31).toUInt32).toInt32) &&& (3 : Int32))), .val (.int (x1 &&& (255 : Int32))), .val (.int (((x1.toUInt32 >>> ((8 : Int32) &&& 31).toUInt32).toInt32) &&& (255 : Int32))), .val (.int (if ¬ ((x5 &&& (4 : Int32)) = (0 : Int32)) then (x1 &&& (255 : Int32)) else (x2 &&& (255 : Int32)))), .unset, .unset, .unset, .unset, .unset, .unset, .unset, .unset] [(.int z_)])) (show (((x1.toUInt32 >>> ((8 : Int32) &&& 31).toUInt32).toInt32) &&& (255 : Int32)) = (if ¬ ((x5 &&& (4 : Int32)) = (0 : Int32)) then (((x1.toUInt32 >>> ((8 : Int32) &&& 31).toUInt32).toInt32) &&& (255 : Int32)) else (((x2.toUInt32 >>> ((8 : Int32) &&& 31).toUInt32).toInt32) &&& (255 : Int32))) from by rw [if_pos hc11])) k
    · skip
      refine XS.ifYes X0.here hx rfl (pc0 := 104) (pc' := 112) rfl (hb hby at_104) rfl ((if0 _ _).trans (teq (if_neg hc11)).1) (by decide) (by decide) ?_
      show Steps p.tables e below (s₁.setTop (mkF m 112 #[.val (.int x1), .val (.int x2), .val (.int x3), .val (.int x4), .val (.int x5), .val (.int (if ¬ ((x5 &&& (1 : Int32)) = (0 : Int32)) then (1 : Int32) else (0 : Int32))), .val (.int (if ¬ ((x5 &&& (2 : Int32)) = (0 : Int32)) then (1 : Int32) else (0 : Int32))), .val (.int (if ¬ ((x5 &&& (4 : Int32)) = (0 : Int32)) then (1 : Int32) else (0 : Int32))), .val (.int (if ¬ ((x5 &&& (8 : Int32)) = (0 : Int32)) then (1 : Int32) else (0 : Int32))), .val (.int (((x5.toUInt32 >>> ((4 : Int32) &&& 31).toUInt32).toInt32) &&& (3 : Int32))), .val (.int (x1 &&& (255 : Int32))), .val (.int (((x1.toUInt32 >>> ((8 : Int32) &&& 31).toUInt32).toInt32) &&& (255 : Int32))), .val (.int (if ¬ ((x5 &&& (4 : Int32)) = (0 : Int32)) then (x1 &&& (255 : Int32)) else (x2 &&& (255 : Int32)))), .unset, .unset, .unset, .unset, .unset, .unset, .unset, .unset] [])) _
      refine XS.iloadN X0.here hx rfl (hb hby at_112) rfl ?_
      show Steps p.tables e below (s₁.setTop (mkF m 113 #[.val (.int x1), .val (.int x2), .val (.int x3), .val (.int x4), .val (.int x5), .val (.int (if ¬ ((x5 &&& (1 : Int32)) = (0 : Int32)) then (1 : Int32) else (0 : Int32))), .val (.int (if ¬ ((x5 &&& (2 : Int32)) = (0 : Int32)) then (1 : Int32) else (0 : Int32))), .val (.int (if ¬ ((x5 &&& (4 : Int32)) = (0 : Int32)) then (1 : Int32) else (0 : Int32))), .val (.int (if ¬ ((x5 &&& (8 : Int32)) = (0 : Int32)) then (1 : Int32) else (0 : Int32))), .val (.int (((x5.toUInt32 >>> ((4 : Int32) &&& 31).toUInt32).toInt32) &&& (3 : Int32))), .val (.int (x1 &&& (255 : Int32))), .val (.int (((x1.toUInt32 >>> ((8 : Int32) &&& 31).toUInt32).toInt32) &&& (255 : Int32))), .val (.int (if ¬ ((x5 &&& (4 : Int32)) = (0 : Int32)) then (x1 &&& (255 : Int32)) else (x2 &&& (255 : Int32)))), .unset, .unset, .unset, .unset, .unset, .unset, .unset, .unset] [(.int x2)])) _
      refine XS.bipush X0.here hx rfl (hb hby at_113) ?_
      show Steps p.tables e below (s₁.setTop (mkF m 115 #[.val (.int x1), .val (.int x2), .val (.int x3), .val (.int x4), .val (.int x5), .val (.int (if ¬ ((x5 &&& (1 : Int32)) = (0 : Int32)) then (1 : Int32) else (0 : Int32))), .val (.int (if ¬ ((x5 &&& (2 : Int32)) = (0 : Int32)) then (1 : Int32) else (0 : Int32))), .val (.int (if ¬ ((x5 &&& (4 : Int32)) = (0 : Int32)) then (1 : Int32) else (0 : Int32))), .val (.int (if ¬ ((x5 &&& (8 : Int32)) = (0 : Int32)) then (1 : Int32) else (0 : Int32))), .val (.int (((x5.toUInt32 >>> ((4 : Int32) &&& 31).toUInt32).toInt32) &&& (3 : Int32))), .val (.int (x1 &&& (255 : Int32))), .val (.int (((x1.toUInt32 >>> ((8 : Int32) &&& 31).toUInt32).toInt32) &&& (255 : Int32))), .val (.int (if ¬ ((x5 &&& (4 : Int32)) = (0 : Int32)) then (x1 &&& (255 : Int32)) else (x2 &&& (255 : Int32)))), .unset, .unset, .unset, .unset, .unset, .unset, .unset, .unset] [(.int (8 : Int32)), (.int x2)])) _
      refine XS.iushr X0.here hx rfl (hb hby at_115) rfl ?_
      show Steps p.tables e below (s₁.setTop (mkF m 116 #[.val (.int x1), .val (.int x2), .val (.int x3), .val (.int x4), .val (.int x5), .val (.int (if ¬ ((x5 &&& (1 : Int32)) = (0 : Int32)) then (1 : Int32) else (0 : Int32))), .val (.int (if ¬ ((x5 &&& (2 : Int32)) = (0 : Int32)) then (1 : Int32) else (0 : Int32))), .val (.int (if ¬ ((x5 &&& (4 : Int32)) = (0 : Int32)) then (1 : Int32) else (0 : Int32))), .val (.int (if ¬ ((x5 &&& (8 : Int32)) = (0 : Int32)) then (1 : Int32) else (0 : Int32))), .val (.int (((x5.toUInt32 >>> ((4 : Int32) &&& 31).toUInt32).toInt32) &&& (3 : Int32))), .val (.int (x1 &&& (255 : Int32))), .val (.int (((x1.toUInt32 >>> ((8 : Int32) &&& 31).toUInt32).toInt32) &&& (255 : Int32))), .val (.int (if ¬ ((x5 &&& (4 : Int32)) = (0 : Int32)) then (x1 &&& (255 : Int32)) else (x2 &&& (255 : Int32)))), .unset, .unset, .unset, .unset, .unset, .unset, .unset, .unset] [(.int ((x2.toUInt32 >>> ((8 : Int32) &&& 31).toUInt32).toInt32))])) _
      refine XS.sipush X0.here hx rfl (hb hby at_116) ?_
      show Steps p.tables e below (s₁.setTop (mkF m 119 #[.val (.int x1), .val (.int x2), .val (.int x3), .val (.int x4), .val (.int x5), .val (.int (if ¬ ((x5 &&& (1 : Int32)) = (0 : Int32)) then (1 : Int32) else (0 : Int32))), .val (.int (if ¬ ((x5 &&& (2 : Int32)) = (0 : Int32)) then (1 : Int32) else (0 : Int32))), .val (.int (if ¬ ((x5 &&& (4 : Int32)) = (0 : Int32)) then (1 : Int32) else (0 : Int32))), .val (.int (if ¬ ((x5 &&& (8 : Int32)) = (0 : Int32)) then (1 : Int32) else (0 : Int32))), .val (.int (((x5.toUInt32 >>> ((4 : Int32) &&& 31).toUInt32).toInt32) &&& (3 : Int32))), .val (.int (x1 &&& (255 : Int32))), .val (.int (((x1.toUInt32 >>> ((8 : Int32) &&& 31).toUInt32).toInt32) &&& (255 : Int32))), .val (.int (if ¬ ((x5 &&& (4 : Int32)) = (0 : Int32)) then (x1 &&& (255 : Int32)) else (x2 &&& (255 : Int32)))), .unset, .unset, .unset, .unset, .unset, .unset, .unset, .unset] [(.int (255 : Int32)), (.int ((x2.toUInt32 >>> ((8 : Int32) &&& 31).toUInt32).toInt32))])) _
      refine XS.iand X0.here hx rfl (hb hby at_119) rfl ?_
      show Steps p.tables e below (s₁.setTop (mkF m 120 #[.val (.int x1), .val (.int x2), .val (.int x3), .val (.int x4), .val (.int x5), .val (.int (if ¬ ((x5 &&& (1 : Int32)) = (0 : Int32)) then (1 : Int32) else (0 : Int32))), .val (.int (if ¬ ((x5 &&& (2 : Int32)) = (0 : Int32)) then (1 : Int32) else (0 : Int32))), .val (.int (if ¬ ((x5 &&& (4 : Int32)) = (0 : Int32)) then (1 : Int32) else (0 : Int32))), .val (.int (if ¬ ((x5 &&& (8 : Int32)) = (0 : Int32)) then (1 : Int32) else (0 : Int32))), .val (.int (((x5.toUInt32 >>> ((4 : Int32) &&& 31).toUInt32).toInt32) &&& (3 : Int32))), .val (.int (x1 &&& (255 : Int32))), .val (.int (((x1.toUInt32 >>> ((8 : Int32) &&& 31).toUInt32).toInt32) &&& (255 : Int32))), .val (.int (if ¬ ((x5 &&& (4 : Int32)) = (0 : Int32)) then (x1 &&& (255 : Int32)) else (x2 &&& (255 : Int32)))), .unset, .unset, .unset, .unset, .unset, .unset, .unset, .unset] [(.int (((x2.toUInt32 >>> ((8 : Int32) &&& 31).toUInt32).toInt32) &&& (255 : Int32)))])) _
      refine XS.i2c X0.here hx rfl (hb hby at_120) rfl ?_
      rw [i2c_mask]
      exact castTop (congrArg (fun z_ => (mkF m 121 #[.val (.int x1), .val (.int x2), .val (.int x3), .val (.int x4), .val (.int x5), .val (.int (if ¬ ((x5 &&& (1 : Int32)) = (0 : Int32)) then (1 : Int32) else (0 : Int32))), .val (.int (if ¬ ((x5 &&& (2 : Int32)) = (0 : Int32)) then (1 : Int32) else (0 : Int32))), .val (.int (if ¬ ((x5 &&& (4 : Int32)) = (0 : Int32)) then (1 : Int32) else (0 : Int32))), .val (.int (if ¬ ((x5 &&& (8 : Int32)) = (0 : Int32)) then (1 : Int32) else (0 : Int32))), .val (.int (((x5.toUInt32 >>> ((4 : Int32) &&& 31).toUInt32).toInt32) &&& (3 : Int32))), .val (.int (x1 &&& (255 : Int32))), .val (.int (((x1.toUInt32 >>> ((8 : Int32) &&& 31).toUInt32).toInt32) &&& (255 : Int32))), .val (.int (if ¬ ((x5 &&& (4 : Int32)) = (0 : Int32)) then (x1 &&& (255 : Int32)) else (x2 &&& (255 : Int32)))), .unset, .unset, .unset, .unset, .unset, .unset, .unset, .unset] [(.int z_)])) (show (((x2.toUInt32 >>> ((8 : Int32) &&& 31).toUInt32).toInt32) &&& (255 : Int32)) = (if ¬ ((x5 &&& (4 : Int32)) = (0 : Int32)) then (((x1.toUInt32 >>> ((8 : Int32) &&& 31).toUInt32).toInt32) &&& (255 : Int32)) else (((x2.toUInt32 >>> ((8 : Int32) &&& 31).toUInt32).toInt32) &&& (255 : Int32))) from by rw [if_neg hc11])) k)
  have pre14 : ∀ t, Steps p.tables e below (s₁.setTop (mkF m 143 #[.val (.int x1), .val (.int x2), .val (.int x3), .val (.int x4), .val (.int x5), .val (.int (if ¬ ((x5 &&& (1 : Int32)) = (0 : Int32)) then (1 : Int32) else (0 : Int32))), .val (.int (if ¬ ((x5 &&& (2 : Int32)) = (0 : Int32)) then (1 : Int32) else (0 : Int32))), .val (.int (if ¬ ((x5 &&& (4 : Int32)) = (0 : Int32)) then (1 : Int32) else (0 : Int32))), .val (.int (if ¬ ((x5 &&& (8 : Int32)) = (0 : Int32)) then (1 : Int32) else (0 : Int32))), .val (.int (((x5.toUInt32 >>> ((4 : Int32) &&& 31).toUInt32).toInt32) &&& (3 : Int32))), .val (.int (x1 &&& (255 : Int32))), .val (.int (((x1.toUInt32 >>> ((8 : Int32) &&& 31).toUInt32).toInt32) &&& (255 : Int32))), .val (.int (if ¬ ((x5 &&& (4 : Int32)) = (0 : Int32)) then (x1 &&& (255 : Int32)) else (x2 &&& (255 : Int32)))), .val (.int (if ¬ ((x5 &&& (4 : Int32)) = (0 : Int32)) then (((x1.toUInt32 >>> ((8 : Int32) &&& 31).toUInt32).toInt32) &&& (255 : Int32)) else (((x2.toUInt32 >>> ((8 : Int32) &&& 31).toUInt32).toInt32) &&& (255 : Int32)))), .val (.int (x3 &&& (2147483647 : Int32))), .unset, .unset, .unset, .unset, .unset, .unset] [(.int (if ¬ ((x5 &&& (8 : Int32)) = (0 : Int32)) then (x3 &&& (2147483647 : Int32)) else (x4 &&& (2147483647 : Int32))))])) t → Steps p.tables e below (s₁.setTop (entryFrame m #[(.int x1), (.int x2), (.int x3), (.int x4), (.int x5)] maxLocals)) t := fun t k => pre12 t (by
    show Steps p.tables e below (s₁.setTop (mkF m 121 #[.val (.int x1), .val (.int x2), .val (.int x3), .val (.int x4), .val (.int x5), .val (.int (if ¬ ((x5 &&& (1 : Int32)) = (0 : Int32)) then (1 : Int32) else (0 : Int32))), .val (.int (if ¬ ((x5 &&& (2 : Int32)) = (0 : Int32)) then (1 : Int32) else (0 : Int32))), .val (.int (if ¬ ((x5 &&& (4 : Int32)) = (0 : Int32)) then (1 : Int32) else (0 : Int32))), .val (.int (if ¬ ((x5 &&& (8 : Int32)) = (0 : Int32)) then (1 : Int32) else (0 : Int32))), .val (.int (((x5.toUInt32 >>> ((4 : Int32) &&& 31).toUInt32).toInt32) &&& (3 : Int32))), .val (.int (x1 &&& (255 : Int32))), .val (.int (((x1.toUInt32 >>> ((8 : Int32) &&& 31).toUInt32).toInt32) &&& (255 : Int32))), .val (.int (if ¬ ((x5 &&& (4 : Int32)) = (0 : Int32)) then (x1 &&& (255 : Int32)) else (x2 &&& (255 : Int32)))), .unset, .unset, .unset, .unset, .unset, .unset, .unset, .unset] [(.int (if ¬ ((x5 &&& (4 : Int32)) = (0 : Int32)) then (((x1.toUInt32 >>> ((8 : Int32) &&& 31).toUInt32).toInt32) &&& (255 : Int32)) else (((x2.toUInt32 >>> ((8 : Int32) &&& 31).toUInt32).toInt32) &&& (255 : Int32))))])) _
    refine XS.istore X0.here hx rfl (hb hby at_121) rfl (l' := #[.val (.int x1), .val (.int x2), .val (.int x3), .val (.int x4), .val (.int x5), .val (.int (if ¬ ((x5 &&& (1 : Int32)) = (0 : Int32)) then (1 : Int32) else (0 : Int32))), .val (.int (if ¬ ((x5 &&& (2 : Int32)) = (0 : Int32)) then (1 : Int32) else (0 : Int32))), .val (.int (if ¬ ((x5 &&& (4 : Int32)) = (0 : Int32)) then (1 : Int32) else (0 : Int32))), .val (.int (if ¬ ((x5 &&& (8 : Int32)) = (0 : Int32)) then (1 : Int32) else (0 : Int32))), .val (.int (((x5.toUInt32 >>> ((4 : Int32) &&& 31).toUInt32).toInt32) &&& (3 : Int32))), .val (.int (x1 &&& (255 : Int32))), .val (.int (((x1.toUInt32 >>> ((8 : Int32) &&& 31).toUInt32).toInt32) &&& (255 : Int32))), .val (.int (if ¬ ((x5 &&& (4 : Int32)) = (0 : Int32)) then (x1 &&& (255 : Int32)) else (x2 &&& (255 : Int32)))), .val (.int (if ¬ ((x5 &&& (4 : Int32)) = (0 : Int32)) then (((x1.toUInt32 >>> ((8 : Int32) &&& 31).toUInt32).toInt32) &&& (255 : Int32)) else (((x2.toUInt32 >>> ((8 : Int32) &&& 31).toUInt32).toInt32) &&& (255 : Int32)))), .unset, .unset, .unset, .unset, .unset, .unset, .unset]) rfl ?_
    show Steps p.tables e below (s₁.setTop (mkF m 123 #[.val (.int x1), .val (.int x2), .val (.int x3), .val (.int x4), .val (.int x5), .val (.int (if ¬ ((x5 &&& (1 : Int32)) = (0 : Int32)) then (1 : Int32) else (0 : Int32))), .val (.int (if ¬ ((x5 &&& (2 : Int32)) = (0 : Int32)) then (1 : Int32) else (0 : Int32))), .val (.int (if ¬ ((x5 &&& (4 : Int32)) = (0 : Int32)) then (1 : Int32) else (0 : Int32))), .val (.int (if ¬ ((x5 &&& (8 : Int32)) = (0 : Int32)) then (1 : Int32) else (0 : Int32))), .val (.int (((x5.toUInt32 >>> ((4 : Int32) &&& 31).toUInt32).toInt32) &&& (3 : Int32))), .val (.int (x1 &&& (255 : Int32))), .val (.int (((x1.toUInt32 >>> ((8 : Int32) &&& 31).toUInt32).toInt32) &&& (255 : Int32))), .val (.int (if ¬ ((x5 &&& (4 : Int32)) = (0 : Int32)) then (x1 &&& (255 : Int32)) else (x2 &&& (255 : Int32)))), .val (.int (if ¬ ((x5 &&& (4 : Int32)) = (0 : Int32)) then (((x1.toUInt32 >>> ((8 : Int32) &&& 31).toUInt32).toInt32) &&& (255 : Int32)) else (((x2.toUInt32 >>> ((8 : Int32) &&& 31).toUInt32).toInt32) &&& (255 : Int32)))), .unset, .unset, .unset, .unset, .unset, .unset, .unset] [])) _
    refine XS.iloadN X0.here hx rfl (hb hby at_123) rfl ?_
    show Steps p.tables e below (s₁.setTop (mkF m 124 #[.val (.int x1), .val (.int x2), .val (.int x3), .val (.int x4), .val (.int x5), .val (.int (if ¬ ((x5 &&& (1 : Int32)) = (0 : Int32)) then (1 : Int32) else (0 : Int32))), .val (.int (if ¬ ((x5 &&& (2 : Int32)) = (0 : Int32)) then (1 : Int32) else (0 : Int32))), .val (.int (if ¬ ((x5 &&& (4 : Int32)) = (0 : Int32)) then (1 : Int32) else (0 : Int32))), .val (.int (if ¬ ((x5 &&& (8 : Int32)) = (0 : Int32)) then (1 : Int32) else (0 : Int32))), .val (.int (((x5.toUInt32 >>> ((4 : Int32) &&& 31).toUInt32).toInt32) &&& (3 : Int32))), .val (.int (x1 &&& (255 : Int32))), .val (.int (((x1.toUInt32 >>> ((8 : Int32) &&& 31).toUInt32).toInt32) &&& (255 : Int32))), .val (.int (if ¬ ((x5 &&& (4 : Int32)) = (0 : Int32)) then (x1 &&& (255 : Int32)) else (x2 &&& (255 : Int32)))), .val (.int (if ¬ ((x5 &&& (4 : Int32)) = (0 : Int32)) then (((x1.toUInt32 >>> ((8 : Int32) &&& 31).toUInt32).toInt32) &&& (255 : Int32)) else (((x2.toUInt32 >>> ((8 : Int32) &&& 31).toUInt32).toInt32) &&& (255 : Int32)))), .unset, .unset, .unset, .unset, .unset, .unset, .unset] [(.int x3)])) _
    refine X0.ldcInt hx hown (mvT hZ (hw _ (List.mem_of_getElem? (i := 0) rfl))) (g := (mkF m 124 #[.val (.int x1), .val (.int x2), .val (.int x3), .val (.int x4), .val (.int x5), .val (.int (if ¬ ((x5 &&& (1 : Int32)) = (0 : Int32)) then (1 : Int32) else (0 : Int32))), .val (.int (if ¬ ((x5 &&& (2 : Int32)) = (0 : Int32)) then (1 : Int32) else (0 : Int32))), .val (.int (if ¬ ((x5 &&& (4 : Int32)) = (0 : Int32)) then (1 : Int32) else (0 : Int32))), .val (.int (if ¬ ((x5 &&& (8 : Int32)) = (0 : Int32)) then (1 : Int32) else (0 : Int32))), .val (.int (((x5.toUInt32 >>> ((4 : Int32) &&& 31).toUInt32).toInt32) &&& (3 : Int32))), .val (.int (x1 &&& (255 : Int32))), .val (.int (((x1.toUInt32 >>> ((8 : Int32) &&& 31).toUInt32).toInt32) &&& (255 : Int32))), .val (.int (if ¬ ((x5 &&& (4 : Int32)) = (0 : Int32)) then (x1 &&& (255 : Int32)) else (x2 &&& (255 : Int32)))), .val (.int (if ¬ ((x5 &&& (4 : Int32)) = (0 : Int32)) then (((x1.toUInt32 >>> ((8 : Int32) &&& 31).toUInt32).toInt32) &&& (255 : Int32)) else (((x2.toUInt32 >>> ((8 : Int32) &&& 31).toUInt32).toInt32) &&& (255 : Int32)))), .unset, .unset, .unset, .unset, .unset, .unset, .unset] [(.int x3)])) rfl (hb hby at_124) _ ?_
    show Steps p.tables e below (s₁.setTop (mkF m 126 #[.val (.int x1), .val (.int x2), .val (.int x3), .val (.int x4), .val (.int x5), .val (.int (if ¬ ((x5 &&& (1 : Int32)) = (0 : Int32)) then (1 : Int32) else (0 : Int32))), .val (.int (if ¬ ((x5 &&& (2 : Int32)) = (0 : Int32)) then (1 : Int32) else (0 : Int32))), .val (.int (if ¬ ((x5 &&& (4 : Int32)) = (0 : Int32)) then (1 : Int32) else (0 : Int32))), .val (.int (if ¬ ((x5 &&& (8 : Int32)) = (0 : Int32)) then (1 : Int32) else (0 : Int32))), .val (.int (((x5.toUInt32 >>> ((4 : Int32) &&& 31).toUInt32).toInt32) &&& (3 : Int32))), .val (.int (x1 &&& (255 : Int32))), .val (.int (((x1.toUInt32 >>> ((8 : Int32) &&& 31).toUInt32).toInt32) &&& (255 : Int32))), .val (.int (if ¬ ((x5 &&& (4 : Int32)) = (0 : Int32)) then (x1 &&& (255 : Int32)) else (x2 &&& (255 : Int32)))), .val (.int (if ¬ ((x5 &&& (4 : Int32)) = (0 : Int32)) then (((x1.toUInt32 >>> ((8 : Int32) &&& 31).toUInt32).toInt32) &&& (255 : Int32)) else (((x2.toUInt32 >>> ((8 : Int32) &&& 31).toUInt32).toInt32) &&& (255 : Int32)))), .unset, .unset, .unset, .unset, .unset, .unset, .unset] [(.int (2147483647 : Int32)), (.int x3)])) _
    refine XS.iand X0.here hx rfl (hb hby at_126) rfl ?_
    show Steps p.tables e below (s₁.setTop (mkF m 127 #[.val (.int x1), .val (.int x2), .val (.int x3), .val (.int x4), .val (.int x5), .val (.int (if ¬ ((x5 &&& (1 : Int32)) = (0 : Int32)) then (1 : Int32) else (0 : Int32))), .val (.int (if ¬ ((x5 &&& (2 : Int32)) = (0 : Int32)) then (1 : Int32) else (0 : Int32))), .val (.int (if ¬ ((x5 &&& (4 : Int32)) = (0 : Int32)) then (1 : Int32) else (0 : Int32))), .val (.int (if ¬ ((x5 &&& (8 : Int32)) = (0 : Int32)) then (1 : Int32) else (0 : Int32))), .val (.int (((x5.toUInt32 >>> ((4 : Int32) &&& 31).toUInt32).toInt32) &&& (3 : Int32))), .val (.int (x1 &&& (255 : Int32))), .val (.int (((x1.toUInt32 >>> ((8 : Int32) &&& 31).toUInt32).toInt32) &&& (255 : Int32))), .val (.int (if ¬ ((x5 &&& (4 : Int32)) = (0 : Int32)) then (x1 &&& (255 : Int32)) else (x2 &&& (255 : Int32)))), .val (.int (if ¬ ((x5 &&& (4 : Int32)) = (0 : Int32)) then (((x1.toUInt32 >>> ((8 : Int32) &&& 31).toUInt32).toInt32) &&& (255 : Int32)) else (((x2.toUInt32 >>> ((8 : Int32) &&& 31).toUInt32).toInt32) &&& (255 : Int32)))), .unset, .unset, .unset, .unset, .unset, .unset, .unset] [(.int (x3 &&& (2147483647 : Int32)))])) _
    refine XS.istore X0.here hx rfl (hb hby at_127) rfl (l' := #[.val (.int x1), .val (.int x2), .val (.int x3), .val (.int x4), .val (.int x5), .val (.int (if ¬ ((x5 &&& (1 : Int32)) = (0 : Int32)) then (1 : Int32) else (0 : Int32))), .val (.int (if ¬ ((x5 &&& (2 : Int32)) = (0 : Int32)) then (1 : Int32) else (0 : Int32))), .val (.int (if ¬ ((x5 &&& (4 : Int32)) = (0 : Int32)) then (1 : Int32) else (0 : Int32))), .val (.int (if ¬ ((x5 &&& (8 : Int32)) = (0 : Int32)) then (1 : Int32) else (0 : Int32))), .val (.int (((x5.toUInt32 >>> ((4 : Int32) &&& 31).toUInt32).toInt32) &&& (3 : Int32))), .val (.int (x1 &&& (255 : Int32))), .val (.int (((x1.toUInt32 >>> ((8 : Int32) &&& 31).toUInt32).toInt32) &&& (255 : Int32))), .val (.int (if ¬ ((x5 &&& (4 : Int32)) = (0 : Int32)) then (x1 &&& (255 : Int32)) else (x2 &&& (255 : Int32)))), .val (.int (if ¬ ((x5 &&& (4 : Int32)) = (0 : Int32)) then (((x1.toUInt32 >>> ((8 : Int32) &&& 31).toUInt32).toInt32) &&& (255 : Int32)) else (((x2.toUInt32 >>> ((8 : Int32) &&& 31).toUInt32).toInt32) &&& (255 : Int32)))), .val (.int (x3 &&& (2147483647 : Int32))), .unset, .unset, .unset, .unset, .unset, .unset]) rfl ?_
    show Steps p.tables e below (s₁.setTop (mkF m 129 #[.val (.int x1), .val (.int x2), .val (.int x3), .val (.int x4), .val (.int x5), .val (.int (if ¬ ((x5 &&& (1 : Int32)) = (0 : Int32)) then (1 : Int32) else (0 : Int32))), .val (.int (if ¬ ((x5 &&& (2 : Int32)) = (0 : Int32)) then (1 : Int32) else (0 : Int32))), .val (.int (if ¬ ((x5 &&& (4 : Int32)) = (0 : Int32)) then (1 : Int32) else (0 : Int32))), .val (.int (if ¬ ((x5 &&& (8 : Int32)) = (0 : Int32)) then (1 : Int32) else (0 : Int32))), .val (.int (((x5.toUInt32 >>> ((4 : Int32) &&& 31).toUInt32).toInt32) &&& (3 : Int32))), .val (.int (x1 &&& (255 : Int32))), .val (.int (((x1.toUInt32 >>> ((8 : Int32) &&& 31).toUInt32).toInt32) &&& (255 : Int32))), .val (.int (if ¬ ((x5 &&& (4 : Int32)) = (0 : Int32)) then (x1 &&& (255 : Int32)) else (x2 &&& (255 : Int32)))), .val (.int (if ¬ ((x5 &&& (4 : Int32)) = (0 : Int32)) then (((x1.toUInt32 >>> ((8 : Int32) &&& 31).toUInt32).toInt32) &&& (255 : Int32)) else (((x2.toUInt32 >>> ((8 : Int32) &&& 31).toUInt32).toInt32) &&& (255 : Int32)))), .val (.int (x3 &&& (2147483647 : Int32))), .unset, .unset, .unset, .unset, .unset, .unset] [])) _
    refine XS.iload X0.here hx rfl (hb hby at_129) rfl ?_
    show Steps p.tables e below (s₁.setTop (mkF m 131 #[.val (.int x1), .val (.int x2), .val (.int x3), .val (.int x4), .val (.int x5), .val (.int (if ¬ ((x5 &&& (1 : Int32)) = (0 : Int32)) then (1 : Int32) else (0 : Int32))), .val (.int (if ¬ ((x5 &&& (2 : Int32)) = (0 : Int32)) then (1 : Int32) else (0 : Int32))), .val (.int (if ¬ ((x5 &&& (4 : Int32)) = (0 : Int32)) then (1 : Int32) else (0 : Int32))), .val (.int (if ¬ ((x5 &&& (8 : Int32)) = (0 : Int32)) then (1 : Int32) else (0 : Int32))), .val (.int (((x5.toUInt32 >>> ((4 : Int32) &&& 31).toUInt32).toInt32) &&& (3 : Int32))), .val (.int (x1 &&& (255 : Int32))), .val (.int (((x1.toUInt32 >>> ((8 : Int32) &&& 31).toUInt32).toInt32) &&& (255 : Int32))), .val (.int (if ¬ ((x5 &&& (4 : Int32)) = (0 : Int32)) then (x1 &&& (255 : Int32)) else (x2 &&& (255 : Int32)))), .val (.int (if ¬ ((x5 &&& (4 : Int32)) = (0 : Int32)) then (((x1.toUInt32 >>> ((8 : Int32) &&& 31).toUInt32).toInt32) &&& (255 : Int32)) else (((x2.toUInt32 >>> ((8 : Int32) &&& 31).toUInt32).toInt32) &&& (255 : Int32)))), .val (.int (x3 &&& (2147483647 : Int32))), .unset, .unset, .unset, .unset, .unset, .unset] [(.int (if ¬ ((x5 &&& (8 : Int32)) = (0 : Int32)) then (1 : Int32) else (0 : Int32)))])) _
    by_cases hc13 : ¬ ((x5 &&& (8 : Int32)) = (0 : Int32))
    · skip
      refine XS.ifNo X0.here hx rfl (hb hby at_131) rfl ((if0 _ _).trans (feq (fun q => absurd ((if_pos hc13).symm.trans q) (by decide))).1) ?_
      show Steps p.tables e below (s₁.setTop (mkF m 134 #[.val (.int x1), .val (.int x2), .val (.int x3), .val (.int x4), .val (.int x5), .val (.int (if ¬ ((x5 &&& (1 : Int32)) = (0 : Int32)) then (1 : Int32) else (0 : Int32))), .val (.int (if ¬ ((x5 &&& (2 : Int32)) = (0 : Int32)) then (1 : Int32) else (0 : Int32))), .val (.int (if ¬ ((x5 &&& (4 : Int32)) = (0 : Int32)) then (1 : Int32) else (0 : Int32))), .val (.int (if ¬ ((x5 &&& (8 : Int32)) = (0 : Int32)) then (1 : Int32) else (0 : Int32))), .val (.int (((x5.toUInt32 >>> ((4 : Int32) &&& 31).toUInt32).toInt32) &&& (3 : Int32))), .val (.int (x1 &&& (255 : Int32))), .val (.int (((x1.toUInt32 >>> ((8 : Int32) &&& 31).toUInt32).toInt32) &&& (255 : Int32))), .val (.int (if ¬ ((x5 &&& (4 : Int32)) = (0 : Int32)) then (x1 &&& (255 : Int32)) else (x2 &&& (255 : Int32)))), .val (.int (if ¬ ((x5 &&& (4 : Int32)) = (0 : Int32)) then (((x1.toUInt32 >>> ((8 : Int32) &&& 31).toUInt32).toInt32) &&& (255 : Int32)) else (((x2.toUInt32 >>> ((8 : Int32) &&& 31).toUInt32).toInt32) &&& (255 : Int32)))), .val (.int (x3 &&& (2147483647 : Int32))), .unset, .unset, .unset, .unset, .unset, .unset] [])) _
      refine XS.iload X0.here hx rfl (hb hby at_134) rfl ?_
      show Steps p.tables e below (s₁.setTop (mkF m 136 #[.val (.int x1), .val (.int x2), .val (.int x3), .val (.int x4), .val (.int x5), .val (.int (if ¬ ((x5 &&& (1 : Int32)) = (0 : Int32)) then (1 : Int32) else (0 : Int32))), .val (.int (if ¬ ((x5 &&& (2 : Int32)) = (0 : Int32)) then (1 : Int32) else (0 : Int32))), .val (.int (if ¬ ((x5 &&& (4 : Int32)) = (0 : Int32)) then (1 : Int32) else (0 : Int32))), .val (.int (if ¬ ((x5 &&& (8 : Int32)) = (0 : Int32)) then (1 : Int32) else (0 : Int32))), .val (.int (((x5.toUInt32 >>> ((4 : Int32) &&& 31).toUInt32).toInt32) &&& (3 : Int32))), .val (.int (x1 &&& (255 : Int32))), .val (.int (((x1.toUInt32 >>> ((8 : Int32) &&& 31).toUInt32).toInt32) &&& (255 : Int32))), .val (.int (if ¬ ((x5 &&& (4 : Int32)) = (0 : Int32)) then (x1 &&& (255 : Int32)) else (x2 &&& (255 : Int32)))), .val (.int (if ¬ ((x5 &&& (4 : Int32)) = (0 : Int32)) then (((x1.toUInt32 >>> ((8 : Int32) &&& 31).toUInt32).toInt32) &&& (255 : Int32)) else (((x2.toUInt32 >>> ((8 : Int32) &&& 31).toUInt32).toInt32) &&& (255 : Int32)))), .val (.int (x3 &&& (2147483647 : Int32))), .unset, .unset, .unset, .unset, .unset, .unset] [(.int (x3 &&& (2147483647 : Int32)))])) _
      refine XS.goto X0.here hx rfl (pc0 := 136) (pc' := 143) rfl (hb hby at_136) (by decide) (by decide) ?_
      exact castTop (congrArg (fun z_ => (mkF m 143 #[.val (.int x1), .val (.int x2), .val (.int x3), .val (.int x4), .val (.int x5), .val (.int (if ¬ ((x5 &&& (1 : Int32)) = (0 : Int32)) then (1 : Int32) else (0 : Int32))), .val (.int (if ¬ ((x5 &&& (2 : Int32)) = (0 : Int32)) then (1 : Int32) else (0 : Int32))), .val (.int (if ¬ ((x5 &&& (4 : Int32)) = (0 : Int32)) then (1 : Int32) else (0 : Int32))), .val (.int (if ¬ ((x5 &&& (8 : Int32)) = (0 : Int32)) then (1 : Int32) else (0 : Int32))), .val (.int (((x5.toUInt32 >>> ((4 : Int32) &&& 31).toUInt32).toInt32) &&& (3 : Int32))), .val (.int (x1 &&& (255 : Int32))), .val (.int (((x1.toUInt32 >>> ((8 : Int32) &&& 31).toUInt32).toInt32) &&& (255 : Int32))), .val (.int (if ¬ ((x5 &&& (4 : Int32)) = (0 : Int32)) then (x1 &&& (255 : Int32)) else (x2 &&& (255 : Int32)))), .val (.int (if ¬ ((x5 &&& (4 : Int32)) = (0 : Int32)) then (((x1.toUInt32 >>> ((8 : Int32) &&& 31).toUInt32).toInt32) &&& (255 : Int32)) else (((x2.toUInt32 >>> ((8 : Int32) &&& 31).toUInt32).toInt32) &&& (255 : Int32)))), .val (.int (x3 &&& (2147483647 : Int32))), .unset, .unset, .unset, .unset, .unset, .unset] [(.int z_)])) (show (x3 &&& (2147483647 : Int32)) = (if ¬ ((x5 &&& (8 : Int32)) = (0 : Int32)) then (x3 &&& (2147483647 : Int32)) else (x4 &&& (2147483647 : Int32))) from by rw [if_pos hc13])) k
    · skip
      refine XS.ifYes X0.here hx rfl (pc0 := 131) (pc' := 139) rfl (hb hby at_131) rfl ((if0 _ _).trans (teq (if_neg hc13)).1) (by decide) (by decide) ?_
      show Steps p.tables e below (s₁.setTop (mkF m 139 #[.val (.int x1), .val (.int x2), .val (.int x3), .val (.int x4), .val (.int x5), .val (.int (if ¬ ((x5 &&& (1 : Int32)) = (0 : Int32)) then (1 : Int32) else (0 : Int32))), .val (.int (if ¬ ((x5 &&& (2 : Int32)) = (0 : Int32)) then (1 : Int32) else (0 : Int32))), .val (.int (if ¬ ((x5 &&& (4 : Int32)) = (0 : Int32)) then (1 : Int32) else (0 : Int32))), .val (.int (if ¬ ((x5 &&& (8 : Int32)) = (0 : Int32)) then (1 : Int32) else (0 : Int32))), .val (.int (((x5.toUInt32 >>> ((4 : Int32) &&& 31).toUInt32).toInt32) &&& (3 : Int32))), .val (.int (x1 &&& (255 : Int32))), .val (.int (((x1.toUInt32 >>> ((8 : Int32) &&& 31).toUInt32).toInt32) &&& (255 : Int32))), .val (.int (if ¬ ((x5 &&& (4 : Int32)) = (0 : Int32)) then (x1 &&& (255 : Int32)) else (x2 &&& (255 : Int32)))), .val (.int (if ¬ ((x5 &&& (4 : Int32)) = (0 : Int32)) then (((x1.toUInt32 >>> ((8 : Int32) &&& 31).toUInt32).toInt32) &&& (255 : Int32)) else (((x2.toUInt32 >>> ((8 : Int32) &&& 31).toUInt32).toInt32) &&& (255 : Int32)))), .val (.int (x3 &&& (2147483647 : Int32))), .unset, .unset, .unset, .unset, .unset, .unset] [])) _
      refine XS.iloadN X0.here hx rfl (hb hby at_139) rfl ?_
      show Steps p.tables e below (s₁.setTop (mkF m 140 #[.val (.int x1), .val (.int x2), .val (.int x3), .val (.int x4), .val (.int x5), .val (.int (if ¬ ((x5 &&& (1 : Int32)) = (0 : Int32)) then (1 : Int32) else (0 : Int32))), .val (.int (if ¬ ((x5 &&& (2 : Int32)) = (0 : Int32)) then (1 : Int32) else (0 : Int32))), .val (.int (if ¬ ((x5 &&& (4 : Int32)) = (0 : Int32)) then (1 : Int32) else (0 : Int32))), .val (.int (if ¬ ((x5 &&& (8 : Int32)) = (0 : Int32)) then (1 : Int32) else (0 : Int32))), .val (.int (((x5.toUInt32 >>> ((4 : Int32) &&& 31).toUInt32).toInt32) &&& (3 : Int32))), .val (.int (x1 &&& (255 : Int32))), .val (.int (((x1.toUInt32 >>> ((8 : Int32) &&& 31).toUInt32).toInt32) &&& (255 : Int32))), .val (.int (if ¬ ((x5 &&& (4 : Int32)) = (0 : Int32)) then (x1 &&& (255 : Int32)) else (x2 &&& (255 : Int32)))), .val (.int (if ¬ ((x5 &&& (4 : Int32)) = (0 : Int32)) then (((x1.toUInt32 >>> ((8 : Int32) &&& 31).toUInt32).toInt32) &&& (255 : Int32)) else (((x2.toUInt32 >>> ((8 : Int32) &&& 31).toUInt32).toInt32) &&& (255 : Int32)))), .val (.int (x3 &&& (2147483647 : Int32))), .unset, .unset, .unset, .unset, .unset, .unset] [(.int x4)])) _
      refine X0.ldcInt hx hown (mvT hZ (hw _ (List.mem_of_getElem? (i := 0) rfl))) (g := (mkF m 140 #[.val (.int x1), .val (.int x2), .val (.int x3), .val (.int x4), .val (.int x5), .val (.int (if ¬ ((x5 &&& (1 : Int32)) = (0 : Int32)) then (1 : Int32) else (0 : Int32))), .val (.int (if ¬ ((x5 &&& (2 : Int32)) = (0 : Int32)) then (1 : Int32) else (0 : Int32))), .val (.int (if ¬ ((x5 &&& (4 : Int32)) = (0 : Int32)) then (1 : Int32) else (0 : Int32))), .val (.int (if ¬ ((x5 &&& (8 : Int32)) = (0 : Int32)) then (1 : Int32) else (0 : Int32))), .val (.int (((x5.toUInt32 >>> ((4 : Int32) &&& 31).toUInt32).toInt32) &&& (3 : Int32))), .val (.int (x1 &&& (255 : Int32))), .val (.int (((x1.toUInt32 >>> ((8 : Int32) &&& 31).toUInt32).toInt32) &&& (255 : Int32))), .val (.int (if ¬ ((x5 &&& (4 : Int32)) = (0 : Int32)) then (x1 &&& (255 : Int32)) else (x2 &&& (255 : Int32)))), .val (.int (if ¬ ((x5 &&& (4 : Int32)) = (0 : Int32)) then (((x1.toUInt32 >>> ((8 : Int32) &&& 31).toUInt32).toInt32) &&& (255 : Int32)) else (((x2.toUInt32 >>> ((8 : Int32) &&& 31).toUInt32).toInt32) &&& (255 : Int32)))), .val (.int (x3 &&& (2147483647 : Int32))), .unset, .unset, .unset, .unset, .unset, .unset] [(.int x4)])) rfl (hb hby at_140) _ ?_
      show Steps p.tables e below (s₁.setTop (mkF m 142 #[.val (.int x1), .val (.int x2), .val (.int x3), .val (.int x4), .val (.int x5), .val (.int (if ¬ ((x5 &&& (1 : Int32)) = (0 : Int32)) then (1 : Int32) else (0 : Int32))), .val (.int (if ¬ ((x5 &&& (2 : Int32)) = (0 : Int32)) then (1 : Int32) else (0 : Int32))), .val (.int (if ¬ ((x5 &&& (4 : Int32)) = (0 : Int32)) then (1 : Int32) else (0 : Int32))), .val (.int (if ¬ ((x5 &&& (8 : Int32)) = (0 : Int32)) then (1 : Int32) else (0 : Int32))), .val (.int (((x5.toUInt32 >>> ((4 : Int32) &&& 31).toUInt32).toInt32) &&& (3 : Int32))), .val (.int (x1 &&& (255 : Int32))), .val (.int (((x1.toUInt32 >>> ((8 : Int32) &&& 31).toUInt32).toInt32) &&& (255 : Int32))), .val (.int (if ¬ ((x5 &&& (4 : Int32)) = (0 : Int32)) then (x1 &&& (255 : Int32)) else (x2 &&& (255 : Int32)))), .val (.int (if ¬ ((x5 &&& (4 : Int32)) = (0 : Int32)) then (((x1.toUInt32 >>> ((8 : Int32) &&& 31).toUInt32).toInt32) &&& (255 : Int32)) else (((x2.toUInt32 >>> ((8 : Int32) &&& 31).toUInt32).toInt32) &&& (255 : Int32)))), .val (.int (x3 &&& (2147483647 : Int32))), .unset, .unset, .unset, .unset, .unset, .unset] [(.int (2147483647 : Int32)), (.int x4)])) _
      refine XS.iand X0.here hx rfl (hb hby at_142) rfl ?_
      exact castTop (congrArg (fun z_ => (mkF m 143 #[.val (.int x1), .val (.int x2), .val (.int x3), .val (.int x4), .val (.int x5), .val (.int (if ¬ ((x5 &&& (1 : Int32)) = (0 : Int32)) then (1 : Int32) else (0 : Int32))), .val (.int (if ¬ ((x5 &&& (2 : Int32)) = (0 : Int32)) then (1 : Int32) else (0 : Int32))), .val (.int (if ¬ ((x5 &&& (4 : Int32)) = (0 : Int32)) then (1 : Int32) else (0 : Int32))), .val (.int (if ¬ ((x5 &&& (8 : Int32)) = (0 : Int32)) then (1 : Int32) else (0 : Int32))), .val (.int (((x5.toUInt32 >>> ((4 : Int32) &&& 31).toUInt32).toInt32) &&& (3 : Int32))), .val (.int (x1 &&& (255 : Int32))), .val (.int (((x1.toUInt32 >>> ((8 : Int32) &&& 31).toUInt32).toInt32) &&& (255 : Int32))), .val (.int (if ¬ ((x5 &&& (4 : Int32)) = (0 : Int32)) then (x1 &&& (255 : Int32)) else (x2 &&& (255 : Int32)))), .val (.int (if ¬ ((x5 &&& (4 : Int32)) = (0 : Int32)) then (((x1.toUInt32 >>> ((8 : Int32) &&& 31).toUInt32).toInt32) &&& (255 : Int32)) else (((x2.toUInt32 >>> ((8 : Int32) &&& 31).toUInt32).toInt32) &&& (255 : Int32)))), .val (.int (x3 &&& (2147483647 : Int32))), .unset, .unset, .unset, .unset, .unset, .unset] [(.int z_)])) (show (x4 &&& (2147483647 : Int32)) = (if ¬ ((x5 &&& (8 : Int32)) = (0 : Int32)) then (x3 &&& (2147483647 : Int32)) else (x4 &&& (2147483647 : Int32))) from by rw [if_neg hc13])) k)
  obtain ⟨vb5, hvb5⟩ : ∃ z, z = (if ¬ ((x5 &&& (1 : Int32)) = (0 : Int32)) then (1 : Int32) else (0 : Int32)) := ⟨_, rfl⟩
  obtain ⟨vb6, hvb6⟩ : ∃ z, z = (if ¬ ((x5 &&& (2 : Int32)) = (0 : Int32)) then (1 : Int32) else (0 : Int32)) := ⟨_, rfl⟩
  obtain ⟨vb7, hvb7⟩ : ∃ z, z = (if ¬ ((x5 &&& (4 : Int32)) = (0 : Int32)) then (1 : Int32) else (0 : Int32)) := ⟨_, rfl⟩
  obtain ⟨vb8, hvb8⟩ : ∃ z, z = (if ¬ ((x5 &&& (8 : Int32)) = (0 : Int32)) then (1 : Int32) else (0 : Int32)) := ⟨_, rfl⟩
  obtain ⟨vk, hvk⟩ : ∃ z, z = (((x5.toUInt32 >>> ((4 : Int32) &&& 31).toUInt32).toInt32) &&& (3 : Int32)) := ⟨_, rfl⟩
  obtain ⟨vd0, hvd0⟩ : ∃ z, z = (if ¬ ((x5 &&& (4 : Int32)) = (0 : Int32)) then (x1 &&& (255 : Int32)) else (x2 &&& (255 : Int32))) := ⟨_, rfl⟩
  obtain ⟨vd1, hvd1⟩ : ∃ z, z = (if ¬ ((x5 &&& (4 : Int32)) = (0 : Int32)) then (((x1.toUInt32 >>> ((8 : Int32) &&& 31).toUInt32).toInt32) &&& (255 : Int32)) else (((x2.toUInt32 >>> ((8 : Int32) &&& 31).toUInt32).toInt32) &&& (255 : Int32))) := ⟨_, rfl⟩
  obtain ⟨vp2, hvp2⟩ : ∃ z, z = (if ¬ ((x5 &&& (8 : Int32)) = (0 : Int32)) then (x3 &&& (2147483647 : Int32)) else (x4 &&& (2147483647 : Int32))) := ⟨_, rfl⟩
  obtain ⟨vc0, hvc0⟩ : ∃ z, z = (x1 &&& (255 : Int32)) := ⟨_, rfl⟩
  obtain ⟨vc1, hvc1⟩ : ∃ z, z = (((x1.toUInt32 >>> ((8 : Int32) &&& 31).toUInt32).toInt32) &&& (255 : Int32)) := ⟨_, rfl⟩
  obtain ⟨vp1, hvp1⟩ : ∃ z, z = (x3 &&& (2147483647 : Int32)) := ⟨_, rfl⟩
  have Bvc0 : own_B vc0 := by rw [hvc0]; exact own_Bm _
  have Bvc1 : own_B vc1 := by rw [hvc1]; exact own_Bm _
  have Bvd0 : own_B vd0 := by rw [hvd0]; exact own_Bi (own_Bm _) (own_Bm _)
  have Bvd1 : own_B vd1 := by rw [hvd1]; exact own_Bi (own_Bm _) (own_Bm _)
  have Pvp1 : ¬ (vp1 < (0 : Int32)) := by rw [hvp1]; exact own_p _
  have Pvp2 : ¬ (vp2 < (0 : Int32)) := by rw [hvp2]; exact own_pi (own_p _) (own_p _)
  have pre15 : ∀ t, Steps p.tables e below (s₁.setTop (mkF m 145 #[.val (.int x1), .val (.int x2), .val (.int x3), .val (.int x4), .val (.int x5), .val (.int vb5), .val (.int vb6), .val (.int vb7), .val (.int vb8), .val (.int vk), .val (.int vc0), .val (.int vc1), .val (.int vd0), .val (.int vd1), .val (.int vp1), .val (.int vp2), .unset, .unset, .unset, .unset, .unset] [])) t → Steps p.tables e below (s₁.setTop (entryFrame m #[(.int x1), (.int x2), (.int x3), (.int x4), (.int x5)] maxLocals)) t := fun t k => pre14 t (by
    show Steps p.tables e below (s₁.setTop (mkF m 143 #[.val (.int x1), .val (.int x2), .val (.int x3), .val (.int x4), .val (.int x5), .val (.int (if ¬ ((x5 &&& (1 : Int32)) = (0 : Int32)) then (1 : Int32) else (0 : Int32))), .val (.int (if ¬ ((x5 &&& (2 : Int32)) = (0 : Int32)) then (1 : Int32) else (0 : Int32))), .val (.int (if ¬ ((x5 &&& (4 : Int32)) = (0 : Int32)) then (1 : Int32) else (0 : Int32))), .val (.int (if ¬ ((x5 &&& (8 : Int32)) = (0 : Int32)) then (1 : Int32) else (0 : Int32))), .val (.int (((x5.toUInt32 >>> ((4 : Int32) &&& 31).toUInt32).toInt32) &&& (3 : Int32))), .val (.int (x1 &&& (255 : Int32))), .val (.int (((x1.toUInt32 >>> ((8 : Int32) &&& 31).toUInt32).toInt32) &&& (255 : Int32))), .val (.int (if ¬ ((x5 &&& (4 : Int32)) = (0 : Int32)) then (x1 &&& (255 : Int32)) else (x2 &&& (255 : Int32)))), .val (.int (if ¬ ((x5 &&& (4 : Int32)) = (0 : Int32)) then (((x1.toUInt32 >>> ((8 : Int32) &&& 31).toUInt32).toInt32) &&& (255 : Int32)) else (((x2.toUInt32 >>> ((8 : Int32) &&& 31).toUInt32).toInt32) &&& (255 : Int32)))), .val (.int (x3 &&& (2147483647 : Int32))), .unset, .unset, .unset, .unset, .unset, .unset] [(.int (if ¬ ((x5 &&& (8 : Int32)) = (0 : Int32)) then (x3 &&& (2147483647 : Int32)) else (x4 &&& (2147483647 : Int32))))])) _
    refine XS.istore X0.here hx rfl (hb hby at_143) rfl (l' := #[.val (.int x1), .val (.int x2), .val (.int x3), .val (.int x4), .val (.int x5), .val (.int (if ¬ ((x5 &&& (1 : Int32)) = (0 : Int32)) then (1 : Int32) else (0 : Int32))), .val (.int (if ¬ ((x5 &&& (2 : Int32)) = (0 : Int32)) then (1 : Int32) else (0 : Int32))), .val (.int (if ¬ ((x5 &&& (4 : Int32)) = (0 : Int32)) then (1 : Int32) else (0 : Int32))), .val (.int (if ¬ ((x5 &&& (8 : Int32)) = (0 : Int32)) then (1 : Int32) else (0 : Int32))), .val (.int (((x5.toUInt32 >>> ((4 : Int32) &&& 31).toUInt32).toInt32) &&& (3 : Int32))), .val (.int (x1 &&& (255 : Int32))), .val (.int (((x1.toUInt32 >>> ((8 : Int32) &&& 31).toUInt32).toInt32) &&& (255 : Int32))), .val (.int (if ¬ ((x5 &&& (4 : Int32)) = (0 : Int32)) then (x1 &&& (255 : Int32)) else (x2 &&& (255 : Int32)))), .val (.int (if ¬ ((x5 &&& (4 : Int32)) = (0 : Int32)) then (((x1.toUInt32 >>> ((8 : Int32) &&& 31).toUInt32).toInt32) &&& (255 : Int32)) else (((x2.toUInt32 >>> ((8 : Int32) &&& 31).toUInt32).toInt32) &&& (255 : Int32)))), .val (.int (x3 &&& (2147483647 : Int32))), .val (.int (if ¬ ((x5 &&& (8 : Int32)) = (0 : Int32)) then (x3 &&& (2147483647 : Int32)) else (x4 &&& (2147483647 : Int32)))), .unset, .unset, .unset, .unset, .unset]) rfl ?_
    show Steps p.tables e below (s₁.setTop (mkF m 145 #[.val (.int x1), .val (.int x2), .val (.int x3), .val (.int x4), .val (.int x5), .val (.int (if ¬ ((x5 &&& (1 : Int32)) = (0 : Int32)) then (1 : Int32) else (0 : Int32))), .val (.int (if ¬ ((x5 &&& (2 : Int32)) = (0 : Int32)) then (1 : Int32) else (0 : Int32))), .val (.int (if ¬ ((x5 &&& (4 : Int32)) = (0 : Int32)) then (1 : Int32) else (0 : Int32))), .val (.int (if ¬ ((x5 &&& (8 : Int32)) = (0 : Int32)) then (1 : Int32) else (0 : Int32))), .val (.int (((x5.toUInt32 >>> ((4 : Int32) &&& 31).toUInt32).toInt32) &&& (3 : Int32))), .val (.int (x1 &&& (255 : Int32))), .val (.int (((x1.toUInt32 >>> ((8 : Int32) &&& 31).toUInt32).toInt32) &&& (255 : Int32))), .val (.int (if ¬ ((x5 &&& (4 : Int32)) = (0 : Int32)) then (x1 &&& (255 : Int32)) else (x2 &&& (255 : Int32)))), .val (.int (if ¬ ((x5 &&& (4 : Int32)) = (0 : Int32)) then (((x1.toUInt32 >>> ((8 : Int32) &&& 31).toUInt32).toInt32) &&& (255 : Int32)) else (((x2.toUInt32 >>> ((8 : Int32) &&& 31).toUInt32).toInt32) &&& (255 : Int32)))), .val (.int (x3 &&& (2147483647 : Int32))), .val (.int (if ¬ ((x5 &&& (8 : Int32)) = (0 : Int32)) then (x3 &&& (2147483647 : Int32)) else (x4 &&& (2147483647 : Int32)))), .unset, .unset, .unset, .unset, .unset] [])) _
    rw [← hvb5]
    show Steps p.tables e below (s₁.setTop (mkF m 145 #[.val (.int x1), .val (.int x2), .val (.int x3), .val (.int x4), .val (.int x5), .val (.int vb5), .val (.int (if ¬ ((x5 &&& (2 : Int32)) = (0 : Int32)) then (1 : Int32) else (0 : Int32))), .val (.int (if ¬ ((x5 &&& (4 : Int32)) = (0 : Int32)) then (1 : Int32) else (0 : Int32))), .val (.int (if ¬ ((x5 &&& (8 : Int32)) = (0 : Int32)) then (1 : Int32) else (0 : Int32))), .val (.int (((x5.toUInt32 >>> ((4 : Int32) &&& 31).toUInt32).toInt32) &&& (3 : Int32))), .val (.int (x1 &&& (255 : Int32))), .val (.int (((x1.toUInt32 >>> ((8 : Int32) &&& 31).toUInt32).toInt32) &&& (255 : Int32))), .val (.int (if ¬ ((x5 &&& (4 : Int32)) = (0 : Int32)) then (x1 &&& (255 : Int32)) else (x2 &&& (255 : Int32)))), .val (.int (if ¬ ((x5 &&& (4 : Int32)) = (0 : Int32)) then (((x1.toUInt32 >>> ((8 : Int32) &&& 31).toUInt32).toInt32) &&& (255 : Int32)) else (((x2.toUInt32 >>> ((8 : Int32) &&& 31).toUInt32).toInt32) &&& (255 : Int32)))), .val (.int (x3 &&& (2147483647 : Int32))), .val (.int (if ¬ ((x5 &&& (8 : Int32)) = (0 : Int32)) then (x3 &&& (2147483647 : Int32)) else (x4 &&& (2147483647 : Int32)))), .unset, .unset, .unset, .unset, .unset] [])) _
    rw [← hvb6]
    show Steps p.tables e below (s₁.setTop (mkF m 145 #[.val (.int x1), .val (.int x2), .val (.int x3), .val (.int x4), .val (.int x5), .val (.int vb5), .val (.int vb6), .val (.int (if ¬ ((x5 &&& (4 : Int32)) = (0 : Int32)) then (1 : Int32) else (0 : Int32))), .val (.int (if ¬ ((x5 &&& (8 : Int32)) = (0 : Int32)) then (1 : Int32) else (0 : Int32))), .val (.int (((x5.toUInt32 >>> ((4 : Int32) &&& 31).toUInt32).toInt32) &&& (3 : Int32))), .val (.int (x1 &&& (255 : Int32))), .val (.int (((x1.toUInt32 >>> ((8 : Int32) &&& 31).toUInt32).toInt32) &&& (255 : Int32))), .val (.int (if ¬ ((x5 &&& (4 : Int32)) = (0 : Int32)) then (x1 &&& (255 : Int32)) else (x2 &&& (255 : Int32)))), .val (.int (if ¬ ((x5 &&& (4 : Int32)) = (0 : Int32)) then (((x1.toUInt32 >>> ((8 : Int32) &&& 31).toUInt32).toInt32) &&& (255 : Int32)) else (((x2.toUInt32 >>> ((8 : Int32) &&& 31).toUInt32).toInt32) &&& (255 : Int32)))), .val (.int (x3 &&& (2147483647 : Int32))), .val (.int (if ¬ ((x5 &&& (8 : Int32)) = (0 : Int32)) then (x3 &&& (2147483647 : Int32)) else (x4 &&& (2147483647 : Int32)))), .unset, .unset, .unset, .unset, .unset] [])) _
    rw [← hvb7]
    show Steps p.tables e below (s₁.setTop (mkF m 145 #[.val (.int x1), .val (.int x2), .val (.int x3), .val (.int x4), .val (.int x5), .val (.int vb5), .val (.int vb6), .val (.int vb7), .val (.int (if ¬ ((x5 &&& (8 : Int32)) = (0 : Int32)) then (1 : Int32) else (0 : Int32))), .val (.int (((x5.toUInt32 >>> ((4 : Int32) &&& 31).toUInt32).toInt32) &&& (3 : Int32))), .val (.int (x1 &&& (255 : Int32))), .val (.int (((x1.toUInt32 >>> ((8 : Int32) &&& 31).toUInt32).toInt32) &&& (255 : Int32))), .val (.int (if ¬ ((x5 &&& (4 : Int32)) = (0 : Int32)) then (x1 &&& (255 : Int32)) else (x2 &&& (255 : Int32)))), .val (.int (if ¬ ((x5 &&& (4 : Int32)) = (0 : Int32)) then (((x1.toUInt32 >>> ((8 : Int32) &&& 31).toUInt32).toInt32) &&& (255 : Int32)) else (((x2.toUInt32 >>> ((8 : Int32) &&& 31).toUInt32).toInt32) &&& (255 : Int32)))), .val (.int (x3 &&& (2147483647 : Int32))), .val (.int (if ¬ ((x5 &&& (8 : Int32)) = (0 : Int32)) then (x3 &&& (2147483647 : Int32)) else (x4 &&& (2147483647 : Int32)))), .unset, .unset, .unset, .unset, .unset] [])) _
    rw [← hvb8]
    show Steps p.tables e below (s₁.setTop (mkF m 145 #[.val (.int x1), .val (.int x2), .val (.int x3), .val (.int x4), .val (.int x5), .val (.int vb5), .val (.int vb6), .val (.int vb7), .val (.int vb8), .val (.int (((x5.toUInt32 >>> ((4 : Int32) &&& 31).toUInt32).toInt32) &&& (3 : Int32))), .val (.int (x1 &&& (255 : Int32))), .val (.int (((x1.toUInt32 >>> ((8 : Int32) &&& 31).toUInt32).toInt32) &&& (255 : Int32))), .val (.int (if ¬ ((x5 &&& (4 : Int32)) = (0 : Int32)) then (x1 &&& (255 : Int32)) else (x2 &&& (255 : Int32)))), .val (.int (if ¬ ((x5 &&& (4 : Int32)) = (0 : Int32)) then (((x1.toUInt32 >>> ((8 : Int32) &&& 31).toUInt32).toInt32) &&& (255 : Int32)) else (((x2.toUInt32 >>> ((8 : Int32) &&& 31).toUInt32).toInt32) &&& (255 : Int32)))), .val (.int (x3 &&& (2147483647 : Int32))), .val (.int (if ¬ ((x5 &&& (8 : Int32)) = (0 : Int32)) then (x3 &&& (2147483647 : Int32)) else (x4 &&& (2147483647 : Int32)))), .unset, .unset, .unset, .unset, .unset] [])) _
    rw [← hvk]
    show Steps p.tables e below (s₁.setTop (mkF m 145 #[.val (.int x1), .val (.int x2), .val (.int x3), .val (.int x4), .val (.int x5), .val (.int vb5), .val (.int vb6), .val (.int vb7), .val (.int vb8), .val (.int vk), .val (.int (x1 &&& (255 : Int32))), .val (.int (((x1.toUInt32 >>> ((8 : Int32) &&& 31).toUInt32).toInt32) &&& (255 : Int32))), .val (.int (if ¬ ((x5 &&& (4 : Int32)) = (0 : Int32)) then (x1 &&& (255 : Int32)) else (x2 &&& (255 : Int32)))), .val (.int (if ¬ ((x5 &&& (4 : Int32)) = (0 : Int32)) then (((x1.toUInt32 >>> ((8 : Int32) &&& 31).toUInt32).toInt32) &&& (255 : Int32)) else (((x2.toUInt32 >>> ((8 : Int32) &&& 31).toUInt32).toInt32) &&& (255 : Int32)))), .val (.int (x3 &&& (2147483647 : Int32))), .val (.int (if ¬ ((x5 &&& (8 : Int32)) = (0 : Int32)) then (x3 &&& (2147483647 : Int32)) else (x4 &&& (2147483647 : Int32)))), .unset, .unset, .unset, .unset, .unset] [])) _
    rw [← hvd0]
    show Steps p.tables e below (s₁.setTop (mkF m 145 #[.val (.int x1), .val (.int x2), .val (.int x3), .val (.int x4), .val (.int x5), .val (.int vb5), .val (.int vb6), .val (.int vb7), .val (.int vb8), .val (.int vk), .val (.int (x1 &&& (255 : Int32))), .val (.int (((x1.toUInt32 >>> ((8 : Int32) &&& 31).toUInt32).toInt32) &&& (255 : Int32))), .val (.int vd0), .val (.int (if ¬ ((x5 &&& (4 : Int32)) = (0 : Int32)) then (((x1.toUInt32 >>> ((8 : Int32) &&& 31).toUInt32).toInt32) &&& (255 : Int32)) else (((x2.toUInt32 >>> ((8 : Int32) &&& 31).toUInt32).toInt32) &&& (255 : Int32)))), .val (.int (x3 &&& (2147483647 : Int32))), .val (.int (if ¬ ((x5 &&& (8 : Int32)) = (0 : Int32)) then (x3 &&& (2147483647 : Int32)) else (x4 &&& (2147483647 : Int32)))), .unset, .unset, .unset, .unset, .unset] [])) _
    rw [← hvd1]
    show Steps p.tables e below (s₁.setTop (mkF m 145 #[.val (.int x1), .val (.int x2), .val (.int x3), .val (.int x4), .val (.int x5), .val (.int vb5), .val (.int vb6), .val (.int vb7), .val (.int vb8), .val (.int vk), .val (.int (x1 &&& (255 : Int32))), .val (.int (((x1.toUInt32 >>> ((8 : Int32) &&& 31).toUInt32).toInt32) &&& (255 : Int32))), .val (.int vd0), .val (.int vd1), .val (.int (x3 &&& (2147483647 : Int32))), .val (.int (if ¬ ((x5 &&& (8 : Int32)) = (0 : Int32)) then (x3 &&& (2147483647 : Int32)) else (x4 &&& (2147483647 : Int32)))), .unset, .unset, .unset, .unset, .unset] [])) _
    rw [← hvp2]
    show Steps p.tables e below (s₁.setTop (mkF m 145 #[.val (.int x1), .val (.int x2), .val (.int x3), .val (.int x4), .val (.int x5), .val (.int vb5), .val (.int vb6), .val (.int vb7), .val (.int vb8), .val (.int vk), .val (.int (x1 &&& (255 : Int32))), .val (.int (((x1.toUInt32 >>> ((8 : Int32) &&& 31).toUInt32).toInt32) &&& (255 : Int32))), .val (.int vd0), .val (.int vd1), .val (.int (x3 &&& (2147483647 : Int32))), .val (.int vp2), .unset, .unset, .unset, .unset, .unset] [])) _
    rw [← hvc0]
    show Steps p.tables e below (s₁.setTop (mkF m 145 #[.val (.int x1), .val (.int x2), .val (.int x3), .val (.int x4), .val (.int x5), .val (.int vb5), .val (.int vb6), .val (.int vb7), .val (.int vb8), .val (.int vk), .val (.int vc0), .val (.int (((x1.toUInt32 >>> ((8 : Int32) &&& 31).toUInt32).toInt32) &&& (255 : Int32))), .val (.int vd0), .val (.int vd1), .val (.int (x3 &&& (2147483647 : Int32))), .val (.int vp2), .unset, .unset, .unset, .unset, .unset] [])) _
    rw [← hvc1]
    show Steps p.tables e below (s₁.setTop (mkF m 145 #[.val (.int x1), .val (.int x2), .val (.int x3), .val (.int x4), .val (.int x5), .val (.int vb5), .val (.int vb6), .val (.int vb7), .val (.int vb8), .val (.int vk), .val (.int vc0), .val (.int vc1), .val (.int vd0), .val (.int vd1), .val (.int (x3 &&& (2147483647 : Int32))), .val (.int vp2), .unset, .unset, .unset, .unset, .unset] [])) _
    rw [← hvp1]
    exact k)
  by_cases hc16 : vb5 = (0 : Int32)
  · skip
    by_cases hc17 : vb6 = (0 : Int32)
    · skip
      obtain ⟨T18, h18, X18, e18, E18, A18, D18, -, st18⟩ := newO X0 hx hZ hown (hw _ (List.mem_of_getElem? (i := 1) rfl)) (hw _ (List.mem_of_getElem? (i := 2) rfl)) (hw _ (List.mem_of_getElem? (i := 3) rfl)) e0 (g := (mkF m 173 #[.val (.int x1), .val (.int x2), .val (.int x3), .val (.int x4), .val (.int x5), .val (.int (0 : Int32)), .val (.int (0 : Int32)), .val (.int vb7), .val (.int vb8), .val (.int vk), .val (.int vc0), .val (.int vc1), .val (.int vd0), .val (.int vd1), .val (.int vp1), .val (.int vp2), .unset, .unset, .unset, .unset, .unset] [])) rfl (hb hby at_173) (by decide) (by decide)
      obtain ⟨b18, g18⟩ : ∃ z, z = h0.size := ⟨_, rfl⟩
      rw [← g18] at A18 D18 st18
      have g_b18 : n0 ≤ b18 := Nat.le_trans Z0 (Nat.le_of_eq g18.symm)
      have O := O.ext E18
      have hk := Nat.le_trans hk E18.1
      have Z19 : n0 ≤ h18.size := Nat.le_trans Z0 E18.1
      have F_coder_b18 : Fld Z h18 b18 "java/lang/String" "coder" "B" (.int (0 : Int32)) := D18 (Or.inr (hw _ (List.mem_of_getElem? (i := 28) rfl))) (ty := .byte) (by decide)
      have F_value_b18 : Fld Z h18 b18 "java/lang/String" "value" "[B" .null := D18 (Or.inr (hw _ (List.mem_of_getElem? (i := 30) rfl))) (ty := (.array .byte)) (by decide)
      have E_b18 := A18
      obtain ⟨T20, h20, k20, X20, e20, E20, A20, st20⟩ := newP X18 hx hZ (hw _ (List.mem_of_getElem? (i := 4) rfl)) e18 (g := (mkF m 178 #[.val (.int x1), .val (.int x2), .val (.int x3), .val (.int x4), .val (.int x5), .val (.int (0 : Int32)), .val (.int (0 : Int32)), .val (.int vb7), .val (.int vb8), .val (.int vk), .val (.int vc0), .val (.int vc1), .val (.int vd0), .val (.int vd1), .val (.int vp1), .val (.int vp2), .unset, .unset, .unset, .unset, .unset] [(.int (1 : Int32)), (.ref b18), (.ref b18)])) rfl (hb hby at_178) rfl (by decide) (cap := 1) (by decide) (by decide) (by decide) (by decide)
      obtain ⟨b20, g20⟩ : ∃ z, z = h18.size := ⟨_, rfl⟩
      rw [← g20] at A20 st20
      have g_b20 : n0 ≤ b20 := Nat.le_trans Z19 (Nat.le_of_eq g20.symm)
      have ne_b18_b20 : b18 ≠ b20 := Nat.ne_of_lt (Nat.lt_of_lt_of_le F_coder_b18.lt (Nat.le_of_eq g20.symm))
      have O := O.ext E20
      have F_coder_b18 := F_coder_b18.ext E20
      have F_value_b18 := F_value_b18.ext E20
      have E_b18 := E_b18.ext E20
      have hk := Nat.le_trans hk E20.1
      have Z21 : n0 ≤ h20.size := Nat.le_trans Z19 E20.1
      have V_b20 : Arv Z h20 b20 k20 .char (1 : Int32) [(.int (0 : Int32))] (.int (0 : Int32)) := (Arv.new A20 (by decide)).pad (pad_rep [] (.int (0 : Int32)) 1)
      obtain ⟨cl22, Ar22, q22, S22, M22, H22, G22⟩ := id V_b20
      have hin22 : ¬ ((0 : Int32) < 0 ∨ cl22.slots.size ≤ ((0 : Int32)).toNatClampNeg) := inb_of S22 ⟨by decide, by decide⟩
      obtain ⟨T23, h23, X23, e23, W23, st23⟩ := stC X20 hx hZ e20 Ar22 (j := (0 : Int32)) hin22 (g := (mkF m 184 #[.val (.int x1), .val (.int x2), .val (.int x3), .val (.int x4), .val (.int x5), .val (.int (0 : Int32)), .val (.int (0 : Int32)), .val (.int vb7), .val (.int vb8), .val (.int vk), .val (.int vc0), .val (.int vc1), .val (.int vd0), .val (.int vd1), .val (.int vp1), .val (.int vp2), .unset, .unset, .unset, .unset, .unset] [(.int vc0), (.int (0 : Int32)), (.ref b20), (.ref b20), (.ref b18), (.ref b18)])) rfl rfl (hb hby at_184)
      have O := O.wr W23 g_b20
      have F_coder_b18 := F_coder_b18.other W23 (Or.inl ne_b18_b20)
      have F_value_b18 := F_value_b18.other W23 (Or.inl ne_b18_b20)
      have E_b18 := E_b18.wr W23
      have hk := Nat.le_trans hk (Keep.of_wr W23).1
      have Z24 : n0 ≤ h23.size := Nat.le_trans Z21 (Keep.of_wr W23).1
      have V_b20 := Arv.set Ar22 q22 S22 M22 H22 G22 (fits_nar_char _) W23 0 rfl (Nat.le_of_ble_eq_true rfl)
      have V_b20 : Arv Z h23 b20 k20 .char (1 : Int32) [(.int vc0)] (.int (0 : Int32)) := by have q := V_b20; simp only [(own_Bc Bvc0), List.set] at q; exact q
      have N23 := Fr.snoc X23 N0 g_b20
      obtain ⟨_, _, ⟨T25, L25, k25, n25⟩, -, X25, ⟨Lc25, hQ25, l25, y25, z25⟩, st25⟩ := X23.specialBack hx (y := (⟨"java/lang/String", "<init>", "([C)V"⟩ : MethodName)) rfl hown (mvT hZ (hw _ (List.mem_of_getElem? (i := 5) rfl))) (mvT hZ (hw _ (List.mem_of_getElem? (i := 6) rfl))) (mvT hZ (hw _ (List.mem_of_getElem? (i := 7) rfl))) (by decide) (backOf (W := 1) (own_sic1 l Z a0 hw [] b18 b20 k20 cz (vc0) h23 n0 Z24 E_b18 F_coder_b18 F_value_b18 g_b18 V_b20 (own_B5 Bvc0) (S0.ext O.2) hcz) hZ (hw _ (List.mem_of_getElem? (i := 7) rfl)) (hw _ (List.mem_of_getElem? (i := 3) rfl)) (by decide) (by decide)) (g := (mkF m 185 #[.val (.int x1), .val (.int x2), .val (.int x3), .val (.int x4), .val (.int x5), .val (.int (0 : Int32)), .val (.int (0 : Int32)), .val (.int vb7), .val (.int vb8), .val (.int vk), .val (.int vc0), .val (.int vc1), .val (.int vd0), .val (.int vd1), .val (.int vp1), .val (.int vp2), .unset, .unset, .unset, .unset, .unset] [(.ref b20), (.ref b18), (.ref b18)])) rfl (by rw [hml]; rfl) (Steps.refl _) (a := b18) (argsL := [(.ref b20)]) (rest := [(.ref b18)]) (lenOf own_pd9 rfl) rfl (by show 2 * 0 + _ ≤ _; exact Nat.le_of_eq rfl) (hb hby at_185) (fun _ _ => ⟨rfl, e23, (by decide : 2 + 1 ≤ _), (by decide : 5 + 1 ≤ _)⟩)
      dsimp only [Pt.U, Pt.locs, Pt.cells, Pt.slots] at X25 l25 y25 z25 st25 hQ25
      subst l25 y25 z25
      obtain ⟨b25, kb25, rfl, N25q, K25, Ee25, Fc25, Fv25, VB25, sz25⟩ := hQ25
      have N25 := Fr.app N23 N25q
      have g_b25 : n0 ≤ b25 := Nat.le_trans Z24 sz25
      have ne_b18_b25 : b18 ≠ b25 := Nat.ne_of_lt (Nat.lt_of_lt_of_le F_coder_b18.lt sz25)
      have ne_b20_b25 : b20 ≠ b25 := Nat.ne_of_lt (Nat.lt_of_lt_of_le V_b20.lt sz25)
      have O := O.keep K25 (allS g_b18 all0)
      have E_b18 := E_b18.keep K25
      have V_b20 := V_b20.keep K25 (ninS (Ne.symm ne_b18_b20) nin0)
      have hk := Nat.le_trans hk K25.1
      have Z26 := Nat.le_trans Z24 K25.1
      obtain ⟨T27, h27, X27, e27, E27, A27, D27, -, st27⟩ := newO X25 hx hZ hown (hw _ (List.mem_of_getElem? (i := 1) rfl)) (hw _ (List.mem_of_getElem? (i := 2) rfl)) (hw _ (List.mem_of_getElem? (i := 3) rfl)) rfl (g := (mkF m 218 #[.val (.int x1), .val (.int x2), .val (.int x3), .val (.int x4), .val (.int x5), .val (.int (0 : Int32)), .val (.int (0 : Int32)), .val (.int vb7), .val (.int vb8), .val (.int vk), .val (.int vc0), .val (.int vc1), .val (.int vd0), .val (.int vd1), .val (.int vp1), .val (.int vp2), .val (.ref b18), .unset, .unset, .unset, .unset] [])) rfl (hb hby at_218) (by decide) (by decide)
      obtain ⟨b27, g27⟩ : ∃ z, z = T25.heap.size := ⟨_, rfl⟩
      rw [← g27] at A27 D27 st27
      have g_b27 : n0 ≤ b27 := Nat.le_trans Z26 (Nat.le_of_eq g27.symm)
      have ne_b18_b27 : b18 ≠ b27 := Nat.ne_of_lt (Nat.lt_of_lt_of_le Ee25.lt (Nat.le_of_eq g27.symm))
      have ne_b25_b27 : b25 ≠ b27 := Nat.ne_of_lt (Nat.lt_of_lt_of_le VB25.lt (Nat.le_of_eq g27.symm))
      have O := O.ext E27
      have Ee25 := Ee25.ext E27
      have Fc25 := Fc25.ext E27
      have Fv25 := Fv25.ext E27
      have VB25 := VB25.ext E27
      have hk := Nat.le_trans hk E27.1
      have Z28 : n0 ≤ h27.size := Nat.le_trans Z26 E27.1
      have F_coder_b27 : Fld Z h27 b27 "java/lang/String" "coder" "B" (.int (0 : Int32)) := D27 (Or.inr (hw _ (List.mem_of_getElem? (i := 28) rfl))) (ty := .byte) (by decide)
      have F_value_b27 : Fld Z h27 b27 "java/lang/String" "value" "[B" .null := D27 (Or.inr (hw _ (List.mem_of_getElem? (i := 30) rfl))) (ty := (.array .byte)) (by decide)
      have E_b27 := A27
      obtain ⟨T29, h29, k29, X29, e29, E29, A29, st29⟩ := newP X27 hx hZ (hw _ (List.mem_of_getElem? (i := 4) rfl)) e27 (g := (mkF m 223 #[.val (.int x1), .val (.int x2), .val (.int x3), .val (.int x4), .val (.int x5), .val (.int (0 : Int32)), .val (.int (0 : Int32)), .val (.int vb7), .val (.int vb8), .val (.int vk), .val (.int vc0), .val (.int vc1), .val (.int vd0), .val (.int vd1), .val (.int vp1), .val (.int vp2), .val (.ref b18), .unset, .unset, .unset, .unset] [(.int (1 : Int32)), (.ref b27), (.ref b27)])) rfl (hb hby at_223) rfl (by decide) (cap := 1) (by decide) (by decide) (by decide) (by decide)
      obtain ⟨b29, g29⟩ : ∃ z, z = h27.size := ⟨_, rfl⟩
      rw [← g29] at A29 st29
      have g_b29 : n0 ≤ b29 := Nat.le_trans Z28 (Nat.le_of_eq g29.symm)
      have ne_b18_b29 : b18 ≠ b29 := Nat.ne_of_lt (Nat.lt_of_lt_of_le Ee25.lt (Nat.le_of_eq g29.symm))
      have ne_b25_b29 : b25 ≠ b29 := Nat.ne_of_lt (Nat.lt_of_lt_of_le VB25.lt (Nat.le_of_eq g29.symm))
      have ne_b27_b29 : b27 ≠ b29 := Nat.ne_of_lt (Nat.lt_of_lt_of_le F_coder_b27.lt (Nat.le_of_eq g29.symm))
      have O := O.ext E29
      have Ee25 := Ee25.ext E29
      have Fc25 := Fc25.ext E29
      have Fv25 := Fv25.ext E29
      have VB25 := VB25.ext E29
      have F_coder_b27 := F_coder_b27.ext E29
      have F_value_b27 := F_value_b27.ext E29
      have E_b27 := E_b27.ext E29
      have hk := Nat.le_trans hk E29.1
      have Z30 : n0 ≤ h29.size := Nat.le_trans Z28 E29.1
      have V_b29 : Arv Z h29 b29 k29 .char (1 : Int32) [(.int (0 : Int32))] (.int (0 : Int32)) := (Arv.new A29 (by decide)).pad (pad_rep [] (.int (0 : Int32)) 1)
      obtain ⟨cl31, Ar31, q31, S31, M31, H31, G31⟩ := id V_b29
      have hin31 : ¬ ((0 : Int32) < 0 ∨ cl31.slots.size ≤ ((0 : Int32)).toNatClampNeg) := inb_of S31 ⟨by decide, by decide⟩
      obtain ⟨T32, h32, X32, e32, W32, st32⟩ := stC X29 hx hZ e29 Ar31 (j := (0 : Int32)) hin31 (g := (mkF m 229 #[.val (.int x1), .val (.int x2), .val (.int x3), .val (.int x4), .val (.int x5), .val (.int (0 : Int32)), .val (.int (0 : Int32)), .val (.int vb7), .val (.int vb8), .val (.int vk), .val (.int vc0), .val (.int vc1), .val (.int vd0), .val (.int vd1), .val (.int vp1), .val (.int vp2), .val (.ref b18), .unset, .unset, .unset, .unset] [(.int vd0), (.int (0 : Int32)), (.ref b29), (.ref b29), (.ref b27), (.ref b27)])) rfl rfl (hb hby at_229)
      have O := O.wr W32 g_b29
      have Ee25 := Ee25.wr W32
      have Fc25 := Fc25.other W32 (Or.inl ne_b18_b29)
      have Fv25 := Fv25.other W32 (Or.inl ne_b18_b29)
      have VB25 := VB25.other W32 ne_b25_b29
      have F_coder_b27 := F_coder_b27.other W32 (Or.inl ne_b27_b29)
      have F_value_b27 := F_value_b27.other W32 (Or.inl ne_b27_b29)
      have E_b27 := E_b27.wr W32
      have hk := Nat.le_trans hk (Keep.of_wr W32).1
      have Z33 : n0 ≤ h32.size := Nat.le_trans Z30 (Keep.of_wr W32).1
      have V_b29 := Arv.set Ar31 q31 S31 M31 H31 G31 (fits_nar_char _) W32 0 rfl (Nat.le_of_ble_eq_true rfl)
      have V_b29 : Arv Z h32 b29 k29 .char (1 : Int32) [(.int vd0)] (.int (0 : Int32)) := by have q := V_b29; simp only [(own_Bc Bvd0), List.set] at q; exact q
      have N32 := Fr.snoc X32 N25 g_b29
      obtain ⟨_, _, ⟨T34, L34, k34, n34⟩, -, X34, ⟨Lc34, hQ34, l34, y34, z34⟩, st34⟩ := X32.specialBack hx (y := (⟨"java/lang/String", "<init>", "([C)V"⟩ : MethodName)) rfl hown (mvT hZ (hw _ (List.mem_of_getElem? (i := 5) rfl))) (mvT hZ (hw _ (List.mem_of_getElem? (i := 6) rfl))) (mvT hZ (hw _ (List.mem_of_getElem? (i := 7) rfl))) (by decide) (backOf (W := 1) (own_sic1 l Z a0 hw [] b27 b29 k29 cz (vd0) h32 n0 Z33 E_b27 F_coder_b27 F_value_b27 g_b27 V_b29 (own_B5 Bvd0) (S0.ext O.2) hcz) hZ (hw _ (List.mem_of_getElem? (i := 7) rfl)) (hw _ (List.mem_of_getElem? (i := 3) rfl)) (by decide) (by decide)) (g := (mkF m 230 #[.val (.int x1), .val (.int x2), .val (.int x3), .val (.int x4), .val (.int x5), .val (.int (0 : Int32)), .val (.int (0 : Int32)), .val (.int vb7), .val (.int vb8), .val (.int vk), .val (.int vc0), .val (.int vc1), .val (.int vd0), .val (.int vd1), .val (.int vp1), .val (.int vp2), .val (.ref b18), .unset, .unset, .unset, .unset] [(.ref b29), (.ref b27), (.ref b27)])) rfl (by rw [hml]; rfl) (Steps.refl _) (a := b27) (argsL := [(.ref b29)]) (rest := [(.ref b27)]) (lenOf own_pd9 rfl) rfl (by show 2 * 0 + _ ≤ _; exact Nat.le_of_eq rfl) (hb hby at_230) (fun _ _ => ⟨rfl, e32, (by decide : 5 + 1 ≤ _), (by decide : 11 + 1 ≤ _)⟩)
      dsimp only [Pt.U, Pt.locs, Pt.cells, Pt.slots] at X34 l34 y34 z34 st34 hQ34
      subst l34 y34 z34
      obtain ⟨b34, kb34, rfl, N34q, K34, Ee34, Fc34, Fv34, VB34, sz34⟩ := hQ34
      have N34 := Fr.app N32 N34q
      have g_b34 : n0 ≤ b34 := Nat.le_trans Z33 sz34
      have ne_b18_b34 : b18 ≠ b34 := Nat.ne_of_lt (Nat.lt_of_lt_of_le Ee25.lt sz34)
      have ne_b25_b34 : b25 ≠ b34 := Nat.ne_of_lt (Nat.lt_of_lt_of_le VB25.lt sz34)
      have ne_b27_b34 : b27 ≠ b34 := Nat.ne_of_lt (Nat.lt_of_lt_of_le F_coder_b27.lt sz34)
      have ne_b29_b34 : b29 ≠ b34 := Nat.ne_of_lt (Nat.lt_of_lt_of_le V_b29.lt sz34)
      have O := O.keep K34 (allS g_b27 all0)
      have Ee25 := Ee25.keep K34
      have Fc25 := Fc25.keep K34 (ninS ne_b18_b27 nin0)
      have Fv25 := Fv25.keep K34 (ninS ne_b18_b27 nin0)
      have VB25 := VB25.keep K34 (ninS ne_b25_b27 nin0)
      have E_b27 := E_b27.keep K34
      have V_b29 := V_b29.keep K34 (ninS (Ne.symm ne_b27_b29) nin0)
      have hk := Nat.le_trans hk K34.1
      have Z35 := Nat.le_trans Z33 K34.1
      obtain ⟨T36, h36, X36, e36, E36, A36, D36, -, st36⟩ := newO X34 hx hZ hown (hw _ (List.mem_of_getElem? (i := 31) rfl)) (hw _ (List.mem_of_getElem? (i := 32) rfl)) (hw _ (List.mem_of_getElem? (i := 33) rfl)) rfl (g := (mkF m 235 #[.val (.int x1), .val (.int x2), .val (.int x3), .val (.int x4), .val (.int x5), .val (.int (0 : Int32)), .val (.int (0 : Int32)), .val (.int vb7), .val (.int vb8), .val (.int vk), .val (.int vc0), .val (.int vc1), .val (.int vd0), .val (.int vd1), .val (.int vp1), .val (.int vp2), .val (.ref b18), .val (.ref b27), .unset, .unset, .unset] [])) rfl (hb hby at_235) (by decide) (by decide)
      obtain ⟨b36, g36⟩ : ∃ z, z = T34.heap.size := ⟨_, rfl⟩
      rw [← g36] at A36 D36 st36
      have g_b36 : n0 ≤ b36 := Nat.le_trans Z35 (Nat.le_of_eq g36.symm)
      have ne_b18_b36 : b18 ≠ b36 := Nat.ne_of_lt (Nat.lt_of_lt_of_le Ee25.lt (Nat.le_of_eq g36.symm))
      have ne_b25_b36 : b25 ≠ b36 := Nat.ne_of_lt (Nat.lt_of_lt_of_le VB25.lt (Nat.le_of_eq g36.symm))
      have ne_b27_b36 : b27 ≠ b36 := Nat.ne_of_lt (Nat.lt_of_lt_of_le Ee34.lt (Nat.le_of_eq g36.symm))
      have ne_b34_b36 : b34 ≠ b36 := Nat.ne_of_lt (Nat.lt_of_lt_of_le VB34.lt (Nat.le_of_eq g36.symm))
      have O := O.ext E36
      have Ee25 := Ee25.ext E36
      have Fc25 := Fc25.ext E36
      have Fv25 := Fv25.ext E36
      have VB25 := VB25.ext E36
      have Ee34 := Ee34.ext E36
      have Fc34 := Fc34.ext E36
      have Fv34 := Fv34.ext E36
      have VB34 := VB34.ext E36
      have hk := Nat.le_trans hk E36.1
      have Z37 : n0 ≤ h36.size := Nat.le_trans Z35 E36.1
      have F_topic_b36 : Fld Z h36 b36 "com/example/vigilant_consumer/vigilantconsumer/TopicPartition" "topic" "Ljava/lang/String;" .null := D36 (Or.inr (hw _ (List.mem_of_getElem? (i := 56) rfl))) (ty := (.object "java/lang/String")) (by decide)
      have F_partition_b36 : Fld Z h36 b36 "com/example/vigilant_consumer/vigilantconsumer/TopicPartition" "partition" "I" (.int (0 : Int32)) := D36 (Or.inr (hw _ (List.mem_of_getElem? (i := 58) rfl))) (ty := .int) (by decide)
      have E_b36 := A36
      obtain ⟨_, _, ⟨T38, L38, k38, n38⟩, -, X38, hS38, hg38, ⟨Lc38, hQ38, l38, y38, z38⟩, st38⟩ := X36.specialBackS hx (y := (⟨"com/example/vigilant_consumer/vigilantconsumer/TopicPartition", "<init>", "(Ljava/lang/String;I)V"⟩ : MethodName)) rfl hown (mvT hZ (hw _ (List.mem_of_getElem? (i := 34) rfl))) (mvT hZ (hw _ (List.mem_of_getElem? (i := 35) rfl))) (mvT hZ (hw _ (List.mem_of_getElem? (i := 36) rfl))) (by decide) (backOfS (W := 1) (own_init1 l Z a0 hw [] b36 b18 vp1 b25 kb25 ((vc0).toInt8.toInt32) h36 n0 Z37 E_b36 F_topic_b36 F_partition_b36 g_b36 Ee25 Fv25 VB25 Pvp1) hZ (hw _ (List.mem_of_getElem? (i := 36) rfl)) (hw _ (List.mem_of_getElem? (i := 33) rfl)) (by decide) (by decide)) (g := (mkF m 243 #[.val (.int x1), .val (.int x2), .val (.int x3), .val (.int x4), .val (.int x5), .val (.int (0 : Int32)), .val (.int (0 : Int32)), .val (.int vb7), .val (.int vb8), .val (.int vk), .val (.int vc0), .val (.int vc1), .val (.int vd0), .val (.int vd1), .val (.int vp1), .val (.int vp2), .val (.ref b18), .val (.ref b27), .unset, .unset, .unset] [(.int vp1), (.ref b18), (.ref b36), (.ref b36)])) rfl (by rw [hml]; rfl) (Steps.refl _) (a := b36) (argsL := [(.ref b18), (.int vp1)]) (rest := [(.ref b36)]) (lenOf own_pd10 rfl) rfl (by show 2 * 0 + _ ≤ _; exact Nat.le_of_eq rfl) (hb hby at_243) (fun _ _ => ⟨rfl, e36, (by decide : 7 + 2 ≤ _), (by decide : 14 + 24 ≤ _)⟩)
      dsimp only [Pt.U, Pt.locs, Pt.cells, Pt.slots] at X38 l38 y38 z38 st38 hQ38 hS38 hg38
      subst l38 y38 z38
      obtain ⟨X38, hS, hZ, hown⟩ := rebS hS (show _ ≤ T36.heap.size by rw [e36]; exact hk) X38 hS38 hg38 hZ hown
      obtain ⟨rfl, N38q, K38, Ee38, Ft38, Fp38⟩ := hQ38
      have N38 := Fr.app N34 N38q
      have O := O.keep K38 (allS g_b36 all0)
      have Ee25 := Ee25.keep K38
      have Fc25 := Fc25.keep K38 (ninS ne_b18_b36 nin0)
      have Fv25 := Fv25.keep K38 (ninS ne_b18_b36 nin0)
      have VB25 := VB25.keep K38 (ninS ne_b25_b36 nin0)
      have Ee34 := Ee34.keep K38
      have Fc34 := Fc34.keep K38 (ninS ne_b27_b36 nin0)
      have Fv34 := Fv34.keep K38 (ninS ne_b27_b36 nin0)
      have VB34 := VB34.keep K38 (ninS ne_b34_b36 nin0)
      have E_b36 := E_b36.keep K38
      have Z39 := Nat.le_trans Z37 K38.1
      have hk := Nat.le_refl T38.heap.size
      obtain ⟨T40, h40, X40, e40, E40, A40, D40, -, st40⟩ := newO X38 hx hZ hown (hw _ (List.mem_of_getElem? (i := 31) rfl)) (hw _ (List.mem_of_getElem? (i := 32) rfl)) (hw _ (List.mem_of_getElem? (i := 33) rfl)) rfl (g := (mkF m 248 #[.val (.int x1), .val (.int x2), .val (.int x3), .val (.int x4), .val (.int x5), .val (.int (0 : Int32)), .val (.int (0 : Int32)), .val (.int vb7), .val (.int vb8), .val (.int vk), .val (.int vc0), .val (.int vc1), .val (.int vd0), .val (.int vd1), .val (.int vp1), .val (.int vp2), .val (.ref b18), .val (.ref b27), .val (.ref b36), .unset, .unset] [])) rfl (hb hby at_248) (by decide) (by decide)
      obtain ⟨b40, g40⟩ : ∃ z, z = T38.heap.size := ⟨_, rfl⟩
      rw [← g40] at A40 D40 st40
      have g_b40 : n0 ≤ b40 := Nat.le_trans Z39 (Nat.le_of_eq g40.symm)
      have ne_b18_b40 : b18 ≠ b40 := Nat.ne_of_lt (Nat.lt_of_lt_of_le Ee25.lt (Nat.le_of_eq g40.symm))
      have ne_b25_b40 : b25 ≠ b40 := Nat.ne_of_lt (Nat.lt_of_lt_of_le VB25.lt (Nat.le_of_eq g40.symm))
      have ne_b27_b40 : b27 ≠ b40 := Nat.ne_of_lt (Nat.lt_of_lt_of_le Ee34.lt (Nat.le_of_eq g40.symm))
      have ne_b34_b40 : b34 ≠ b40 := Nat.ne_of_lt (Nat.lt_of_lt_of_le VB34.lt (Nat.le_of_eq g40.symm))
      have ne_b36_b40 : b36 ≠ b40 := Nat.ne_of_lt (Nat.lt_of_lt_of_le Ee38.lt (Nat.le_of_eq g40.symm))
      have O := O.ext E40
      have Ee25 := Ee25.ext E40
      have Fc25 := Fc25.ext E40
      have Fv25 := Fv25.ext E40
      have VB25 := VB25.ext E40
      have Ee34 := Ee34.ext E40
      have Fc34 := Fc34.ext E40
      have Fv34 := Fv34.ext E40
      have VB34 := VB34.ext E40
      have Ee38 := Ee38.ext E40
      have Ft38 := Ft38.ext E40
      have Fp38 := Fp38.ext E40
      have hk := Nat.le_trans hk E40.1
      have Z41 : n0 ≤ h40.size := Nat.le_trans Z39 E40.1
      have F_topic_b40 : Fld Z h40 b40 "com/example/vigilant_consumer/vigilantconsumer/TopicPartition" "topic" "Ljava/lang/String;" .null := D40 (Or.inr (hw _ (List.mem_of_getElem? (i := 56) rfl))) (ty := (.object "java/lang/String")) (by decide)
      have F_partition_b40 : Fld Z h40 b40 "com/example/vigilant_consumer/vigilantconsumer/TopicPartition" "partition" "I" (.int (0 : Int32)) := D40 (Or.inr (hw _ (List.mem_of_getElem? (i := 58) rfl))) (ty := .int) (by decide)
      have E_b40 := A40
      obtain ⟨_, _, ⟨T42, L42, k42, n42⟩, -, X42, hS42, hg42, ⟨Lc42, hQ42, l42, y42, z42⟩, st42⟩ := X40.specialBackS hx (y := (⟨"com/example/vigilant_consumer/vigilantconsumer/TopicPartition", "<init>", "(Ljava/lang/String;I)V"⟩ : MethodName)) rfl hown (mvT hZ (hw _ (List.mem_of_getElem? (i := 34) rfl))) (mvT hZ (hw _ (List.mem_of_getElem? (i := 35) rfl))) (mvT hZ (hw _ (List.mem_of_getElem? (i := 36) rfl))) (by decide) (backOfS (W := 1) (own_init1 l Z a0 hw [] b40 b27 vp2 b34 kb34 ((vd0).toInt8.toInt32) h40 n0 Z41 E_b40 F_topic_b40 F_partition_b40 g_b40 Ee34 Fv34 VB34 Pvp2) hZ (hw _ (List.mem_of_getElem? (i := 36) rfl)) (hw _ (List.mem_of_getElem? (i := 33) rfl)) (by decide) (by decide)) (g := (mkF m 256 #[.val (.int x1), .val (.int x2), .val (.int x3), .val (.int x4), .val (.int x5), .val (.int (0 : Int32)), .val (.int (0 : Int32)), .val (.int vb7), .val (.int vb8), .val (.int vk), .val (.int vc0), .val (.int vc1), .val (.int vd0), .val (.int vd1), .val (.int vp1), .val (.int vp2), .val (.ref b18), .val (.ref b27), .val (.ref b36), .unset, .unset] [(.int vp2), (.ref b27), (.ref b40), (.ref b40)])) rfl (by rw [hml]; rfl) (Steps.refl _) (a := b40) (argsL := [(.ref b27), (.int vp2)]) (rest := [(.ref b40)]) (lenOf own_pd10 rfl) rfl (by show 2 * 0 + _ ≤ _; exact Nat.le_of_eq rfl) (hb hby at_256) (fun _ _ => ⟨rfl, e40, (by decide : 10 + 2 ≤ _), (by decide : 40 + 24 ≤ _)⟩)
      dsimp only [Pt.U, Pt.locs, Pt.cells, Pt.slots] at X42 l42 y42 z42 st42 hQ42 hS42 hg42
      subst l42 y42 z42
      obtain ⟨X42, hS, hZ, hown⟩ := rebS hS (show _ ≤ T40.heap.size by rw [e40]; exact hk) X42 hS42 hg42 hZ hown
      obtain ⟨rfl, N42q, K42, Ee42, Ft42, Fp42⟩ := hQ42
      have N42 := Fr.app N38 N42q
      have O := O.keep K42 (allS g_b40 all0)
      have Ee25 := Ee25.keep K42
      have Fc25 := Fc25.keep K42 (ninS ne_b18_b40 nin0)
      have Fv25 := Fv25.keep K42 (ninS ne_b18_b40 nin0)
      have VB25 := VB25.keep K42 (ninS ne_b25_b40 nin0)
      have Ee34 := Ee34.keep K42
      have Fc34 := Fc34.keep K42 (ninS ne_b27_b40 nin0)
      have Fv34 := Fv34.keep K42 (ninS ne_b27_b40 nin0)
      have VB34 := VB34.keep K42 (ninS ne_b34_b40 nin0)
      have Ee38 := Ee38.keep K42
      have Ft38 := Ft38.keep K42 (ninS ne_b36_b40 nin0)
      have Fp38 := Fp38.keep K42 (ninS ne_b36_b40 nin0)
      have E_b40 := E_b40.keep K42
      have Z43 := Nat.le_trans Z41 K42.1
      have hk := Nat.le_refl T42.heap.size
      have pre44 : ∀ t, Steps p.tables e below (T42.setTop (mkF m 264 #[.val (.int x1), .val (.int x2), .val (.int x3), .val (.int x4), .val (.int x5), .val (.int (0 : Int32)), .val (.int (0 : Int32)), .val (.int vb7), .val (.int vb8), .val (.int vk), .val (.int vc0), .val (.int vc1), .val (.int vd0), .val (.int vd1), .val (.int vp1), .val (.int vp2), .val (.ref b18), .val (.ref b27), .val (.ref b36), .val (.ref b40), .unset] [(.int (1 : Int32)), (.int vk)])) t → Steps p.tables e below (s₁.setTop (entryFrame m #[(.int x1), (.int x2), (.int x3), (.int x4), (.int x5)] maxLocals)) t := fun t k => pre15 t (by
        show Steps p.tables e below (s₁.setTop (mkF m 145 #[.val (.int x1), .val (.int x2), .val (.int x3), .val (.int x4), .val (.int x5), .val (.int vb5), .val (.int vb6), .val (.int vb7), .val (.int vb8), .val (.int vk), .val (.int vc0), .val (.int vc1), .val (.int vd0), .val (.int vd1), .val (.int vp1), .val (.int vp2), .unset, .unset, .unset, .unset, .unset] [])) _
        rw [hc16]
        show Steps p.tables e below (s₁.setTop (mkF m 145 #[.val (.int x1), .val (.int x2), .val (.int x3), .val (.int x4), .val (.int x5), .val (.int (0 : Int32)), .val (.int vb6), .val (.int vb7), .val (.int vb8), .val (.int vk), .val (.int vc0), .val (.int vc1), .val (.int vd0), .val (.int vd1), .val (.int vp1), .val (.int vp2), .unset, .unset, .unset, .unset, .unset] [])) _
        rw [hc17]
        show Steps p.tables e below (s₁.setTop (mkF m 145 #[.val (.int x1), .val (.int x2), .val (.int x3), .val (.int x4), .val (.int x5), .val (.int (0 : Int32)), .val (.int (0 : Int32)), .val (.int vb7), .val (.int vb8), .val (.int vk), .val (.int vc0), .val (.int vc1), .val (.int vd0), .val (.int vd1), .val (.int vp1), .val (.int vp2), .unset, .unset, .unset, .unset, .unset] [])) _
        refine XS.iload X0.here hx rfl (hb hby at_145) rfl ?_
        show Steps p.tables e below (s₁.setTop (mkF m 147 #[.val (.int x1), .val (.int x2), .val (.int x3), .val (.int x4), .val (.int x5), .val (.int (0 : Int32)), .val (.int (0 : Int32)), .val (.int vb7), .val (.int vb8), .val (.int vk), .val (.int vc0), .val (.int vc1), .val (.int vd0), .val (.int vd1), .val (.int vp1), .val (.int vp2), .unset, .unset, .unset, .unset, .unset] [(.int (0 : Int32))])) _
        refine XS.ifYes X0.here hx rfl (pc0 := 147) (pc' := 173) rfl (hb hby at_147) rfl ((if0 _ _).trans (teq (by decide : (0 : Int32) = (0 : Int32))).1) (by decide) (by decide) ?_
        show Steps p.tables e below (s₁.setTop (mkF m 173 #[.val (.int x1), .val (.int x2), .val (.int x3), .val (.int x4), .val (.int x5), .val (.int (0 : Int32)), .val (.int (0 : Int32)), .val (.int vb7), .val (.int vb8), .val (.int vk), .val (.int vc0), .val (.int vc1), .val (.int vd0), .val (.int vd1), .val (.int vp1), .val (.int vp2), .unset, .unset, .unset, .unset, .unset] [])) _
        refine st18 _ ?_
        show Steps p.tables e below (T18.setTop (mkF m 176 #[.val (.int x1), .val (.int x2), .val (.int x3), .val (.int x4), .val (.int x5), .val (.int (0 : Int32)), .val (.int (0 : Int32)), .val (.int vb7), .val (.int vb8), .val (.int vk), .val (.int vc0), .val (.int vc1), .val (.int vd0), .val (.int vd1), .val (.int vp1), .val (.int vp2), .unset, .unset, .unset, .unset, .unset] [(.ref b18)])) _
        refine XS.dup X18.here hx rfl (hb hby at_176) rfl rfl ?_
        show Steps p.tables e below (T18.setTop (mkF m 177 #[.val (.int x1), .val (.int x2), .val (.int x3), .val (.int x4), .val (.int x5), .val (.int (0 : Int32)), .val (.int (0 : Int32)), .val (.int vb7), .val (.int vb8), .val (.int vk), .val (.int vc0), .val (.int vc1), .val (.int vd0), .val (.int vd1), .val (.int vp1), .val (.int vp2), .unset, .unset, .unset, .unset, .unset] [(.ref b18), (.ref b18)])) _
        refine XS.iconst X18.here hx rfl (hb hby at_177) ?_
        show Steps p.tables e below (T18.setTop (mkF m 178 #[.val (.int x1), .val (.int x2), .val (.int x3), .val (.int x4), .val (.int x5), .val (.int (0 : Int32)), .val (.int (0 : Int32)), .val (.int vb7), .val (.int vb8), .val (.int vk), .val (.int vc0), .val (.int vc1), .val (.int vd0), .val (.int vd1), .val (.int vp1), .val (.int vp2), .unset, .unset, .unset, .unset, .unset] [(.int (1 : Int32)), (.ref b18), (.ref b18)])) _
        refine st20 _ ?_
        show Steps p.tables e below (T20.setTop (mkF m 180 #[.val (.int x1), .val (.int x2), .val (.int x3), .val (.int x4), .val (.int x5), .val (.int (0 : Int32)), .val (.int (0 : Int32)), .val (.int vb7), .val (.int vb8), .val (.int vk), .val (.int vc0), .val (.int vc1), .val (.int vd0), .val (.int vd1), .val (.int vp1), .val (.int vp2), .unset, .unset, .unset, .unset, .unset] [(.ref b20), (.ref b18), (.ref b18)])) _
        refine XS.dup X20.here hx rfl (hb hby at_180) rfl rfl ?_
        show Steps p.tables e below (T20.setTop (mkF m 181 #[.val (.int x1), .val (.int x2), .val (.int x3), .val (.int x4), .val (.int x5), .val (.int (0 : Int32)), .val (.int (0 : Int32)), .val (.int vb7), .val (.int vb8), .val (.int vk), .val (.int vc0), .val (.int vc1), .val (.int vd0), .val (.int vd1), .val (.int vp1), .val (.int vp2), .unset, .unset, .unset, .unset, .unset] [(.ref b20), (.ref b20), (.ref b18), (.ref b18)])) _
        refine XS.iconst X20.here hx rfl (hb hby at_181) ?_
        show Steps p.tables e below (T20.setTop (mkF m 182 #[.val (.int x1), .val (.int x2), .val (.int x3), .val (.int x4), .val (.int x5), .val (.int (0 : Int32)), .val (.int (0 : Int32)), .val (.int vb7), .val (.int vb8), .val (.int vk), .val (.int vc0), .val (.int vc1), .val (.int vd0), .val (.int vd1), .val (.int vp1), .val (.int vp2), .unset, .unset, .unset, .unset, .unset] [(.int (0 : Int32)), (.ref b20), (.ref b20), (.ref b18), (.ref b18)])) _
        refine XS.iload X20.here hx rfl (hb hby at_182) rfl ?_
        show Steps p.tables e below (T20.setTop (mkF m 184 #[.val (.int x1), .val (.int x2), .val (.int x3), .val (.int x4), .val (.int x5), .val (.int (0 : Int32)), .val (.int (0 : Int32)), .val (.int vb7), .val (.int vb8), .val (.int vk), .val (.int vc0), .val (.int vc1), .val (.int vd0), .val (.int vd1), .val (.int vp1), .val (.int vp2), .unset, .unset, .unset, .unset, .unset] [(.int vc0), (.int (0 : Int32)), (.ref b20), (.ref b20), (.ref b18), (.ref b18)])) _
        refine st23 _ ?_
        show Steps p.tables e below (T23.setTop (mkF m 185 #[.val (.int x1), .val (.int x2), .val (.int x3), .val (.int x4), .val (.int x5), .val (.int (0 : Int32)), .val (.int (0 : Int32)), .val (.int vb7), .val (.int vb8), .val (.int vk), .val (.int vc0), .val (.int vc1), .val (.int vd0), .val (.int vd1), .val (.int vp1), .val (.int vp2), .unset, .unset, .unset, .unset, .unset] [(.ref b20), (.ref b18), (.ref b18)])) _
        refine st25.trans ?_
        show Steps p.tables e below (T25.setTop (mkF m 188 #[.val (.int x1), .val (.int x2), .val (.int x3), .val (.int x4), .val (.int x5), .val (.int (0 : Int32)), .val (.int (0 : Int32)), .val (.int vb7), .val (.int vb8), .val (.int vk), .val (.int vc0), .val (.int vc1), .val (.int vd0), .val (.int vd1), .val (.int vp1), .val (.int vp2), .unset, .unset, .unset, .unset, .unset] [(.ref b18)])) _
        refine XS.astore X25.here hx rfl (hb hby at_188) rfl rfl (l' := #[.val (.int x1), .val (.int x2), .val (.int x3), .val (.int x4), .val (.int x5), .val (.int (0 : Int32)), .val (.int (0 : Int32)), .val (.int vb7), .val (.int vb8), .val (.int vk), .val (.int vc0), .val (.int vc1), .val (.int vd0), .val (.int vd1), .val (.int vp1), .val (.int vp2), .val (.ref b18), .unset, .unset, .unset, .unset]) rfl ?_
        show Steps p.tables e below (T25.setTop (mkF m 190 #[.val (.int x1), .val (.int x2), .val (.int x3), .val (.int x4), .val (.int x5), .val (.int (0 : Int32)), .val (.int (0 : Int32)), .val (.int vb7), .val (.int vb8), .val (.int vk), .val (.int vc0), .val (.int vc1), .val (.int vd0), .val (.int vd1), .val (.int vp1), .val (.int vp2), .val (.ref b18), .unset, .unset, .unset, .unset] [])) _
        refine XS.iload X25.here hx rfl (hb hby at_190) rfl ?_
        show Steps p.tables e below (T25.setTop (mkF m 192 #[.val (.int x1), .val (.int x2), .val (.int x3), .val (.int x4), .val (.int x5), .val (.int (0 : Int32)), .val (.int (0 : Int32)), .val (.int vb7), .val (.int vb8), .val (.int vk), .val (.int vc0), .val (.int vc1), .val (.int vd0), .val (.int vd1), .val (.int vp1), .val (.int vp2), .val (.ref b18), .unset, .unset, .unset, .unset] [(.int (0 : Int32))])) _
        refine XS.ifYes X25.here hx rfl (pc0 := 192) (pc' := 218) rfl (hb hby at_192) rfl ((if0 _ _).trans (teq (by decide : (0 : Int32) = (0 : Int32))).1) (by decide) (by decide) ?_
        show Steps p.tables e below (T25.setTop (mkF m 218 #[.val (.int x1), .val (.int x2), .val (.int x3), .val (.int x4), .val (.int x5), .val (.int (0 : Int32)), .val (.int (0 : Int32)), .val (.int vb7), .val (.int vb8), .val (.int vk), .val (.int vc0), .val (.int vc1), .val (.int vd0), .val (.int vd1), .val (.int vp1), .val (.int vp2), .val (.ref b18), .unset, .unset, .unset, .unset] [])) _
        refine st27 _ ?_
        show Steps p.tables e below (T27.setTop (mkF m 221 #[.val (.int x1), .val (.int x2), .val (.int x3), .val (.int x4), .val (.int x5), .val (.int (0 : Int32)), .val (.int (0 : Int32)), .val (.int vb7), .val (.int vb8), .val (.int vk), .val (.int vc0), .val (.int vc1), .val (.int vd0), .val (.int vd1), .val (.int vp1), .val (.int vp2), .val (.ref b18), .unset, .unset, .unset, .unset] [(.ref b27)])) _
        refine XS.dup X27.here hx rfl (hb hby at_221) rfl rfl ?_
        show Steps p.tables e below (T27.setTop (mkF m 222 #[.val (.int x1), .val (.int x2), .val (.int x3), .val (.int x4), .val (.int x5), .val (.int (0 : Int32)), .val (.int (0 : Int32)), .val (.int vb7), .val (.int vb8), .val (.int vk), .val (.int vc0), .val (.int vc1), .val (.int vd0), .val (.int vd1), .val (.int vp1), .val (.int vp2), .val (.ref b18), .unset, .unset, .unset, .unset] [(.ref b27), (.ref b27)])) _
        refine XS.iconst X27.here hx rfl (hb hby at_222) ?_
        show Steps p.tables e below (T27.setTop (mkF m 223 #[.val (.int x1), .val (.int x2), .val (.int x3), .val (.int x4), .val (.int x5), .val (.int (0 : Int32)), .val (.int (0 : Int32)), .val (.int vb7), .val (.int vb8), .val (.int vk), .val (.int vc0), .val (.int vc1), .val (.int vd0), .val (.int vd1), .val (.int vp1), .val (.int vp2), .val (.ref b18), .unset, .unset, .unset, .unset] [(.int (1 : Int32)), (.ref b27), (.ref b27)])) _
        refine st29 _ ?_
        show Steps p.tables e below (T29.setTop (mkF m 225 #[.val (.int x1), .val (.int x2), .val (.int x3), .val (.int x4), .val (.int x5), .val (.int (0 : Int32)), .val (.int (0 : Int32)), .val (.int vb7), .val (.int vb8), .val (.int vk), .val (.int vc0), .val (.int vc1), .val (.int vd0), .val (.int vd1), .val (.int vp1), .val (.int vp2), .val (.ref b18), .unset, .unset, .unset, .unset] [(.ref b29), (.ref b27), (.ref b27)])) _
        refine XS.dup X29.here hx rfl (hb hby at_225) rfl rfl ?_
        show Steps p.tables e below (T29.setTop (mkF m 226 #[.val (.int x1), .val (.int x2), .val (.int x3), .val (.int x4), .val (.int x5), .val (.int (0 : Int32)), .val (.int (0 : Int32)), .val (.int vb7), .val (.int vb8), .val (.int vk), .val (.int vc0), .val (.int vc1), .val (.int vd0), .val (.int vd1), .val (.int vp1), .val (.int vp2), .val (.ref b18), .unset, .unset, .unset, .unset] [(.ref b29), (.ref b29), (.ref b27), (.ref b27)])) _
        refine XS.iconst X29.here hx rfl (hb hby at_226) ?_
        show Steps p.tables e below (T29.setTop (mkF m 227 #[.val (.int x1), .val (.int x2), .val (.int x3), .val (.int x4), .val (.int x5), .val (.int (0 : Int32)), .val (.int (0 : Int32)), .val (.int vb7), .val (.int vb8), .val (.int vk), .val (.int vc0), .val (.int vc1), .val (.int vd0), .val (.int vd1), .val (.int vp1), .val (.int vp2), .val (.ref b18), .unset, .unset, .unset, .unset] [(.int (0 : Int32)), (.ref b29), (.ref b29), (.ref b27), (.ref b27)])) _
        refine XS.iload X29.here hx rfl (hb hby at_227) rfl ?_
        show Steps p.tables e below (T29.setTop (mkF m 229 #[.val (.int x1), .val (.int x2), .val (.int x3), .val (.int x4), .val (.int x5), .val (.int (0 : Int32)), .val (.int (0 : Int32)), .val (.int vb7), .val (.int vb8), .val (.int vk), .val (.int vc0), .val (.int vc1), .val (.int vd0), .val (.int vd1), .val (.int vp1), .val (.int vp2), .val (.ref b18), .unset, .unset, .unset, .unset] [(.int vd0), (.int (0 : Int32)), (.ref b29), (.ref b29), (.ref b27), (.ref b27)])) _
        refine st32 _ ?_
        show Steps p.tables e below (T32.setTop (mkF m 230 #[.val (.int x1), .val (.int x2), .val (.int x3), .val (.int x4), .val (.int x5), .val (.int (0 : Int32)), .val (.int (0 : Int32)), .val (.int vb7), .val (.int vb8), .val (.int vk), .val (.int vc0), .val (.int vc1), .val (.int vd0), .val (.int vd1), .val (.int vp1), .val (.int vp2), .val (.ref b18), .unset, .unset, .unset, .unset] [(.ref b29), (.ref b27), (.ref b27)])) _
        refine st34.trans ?_
        show Steps p.tables e below (T34.setTop (mkF m 233 #[.val (.int x1), .val (.int x2), .val (.int x3), .val (.int x4), .val (.int x5), .val (.int (0 : Int32)), .val (.int (0 : Int32)), .val (.int vb7), .val (.int vb8), .val (.int vk), .val (.int vc0), .val (.int vc1), .val (.int vd0), .val (.int vd1), .val (.int vp1), .val (.int vp2), .val (.ref b18), .unset, .unset, .unset, .unset] [(.ref b27)])) _
        refine XS.astore X34.here hx rfl (hb hby at_233) rfl rfl (l' := #[.val (.int x1), .val (.int x2), .val (.int x3), .val (.int x4), .val (.int x5), .val (.int (0 : Int32)), .val (.int (0 : Int32)), .val (.int vb7), .val (.int vb8), .val (.int vk), .val (.int vc0), .val (.int vc1), .val (.int vd0), .val (.int vd1), .val (.int vp1), .val (.int vp2), .val (.ref b18), .val (.ref b27), .unset, .unset, .unset]) rfl ?_
        show Steps p.tables e below (T34.setTop (mkF m 235 #[.val (.int x1), .val (.int x2), .val (.int x3), .val (.int x4), .val (.int x5), .val (.int (0 : Int32)), .val (.int (0 : Int32)), .val (.int vb7), .val (.int vb8), .val (.int vk), .val (.int vc0), .val (.int vc1), .val (.int vd0), .val (.int vd1), .val (.int vp1), .val (.int vp2), .val (.ref b18), .val (.ref b27), .unset, .unset, .unset] [])) _
        refine st36 _ ?_
        show Steps p.tables e below (T36.setTop (mkF m 238 #[.val (.int x1), .val (.int x2), .val (.int x3), .val (.int x4), .val (.int x5), .val (.int (0 : Int32)), .val (.int (0 : Int32)), .val (.int vb7), .val (.int vb8), .val (.int vk), .val (.int vc0), .val (.int vc1), .val (.int vd0), .val (.int vd1), .val (.int vp1), .val (.int vp2), .val (.ref b18), .val (.ref b27), .unset, .unset, .unset] [(.ref b36)])) _
        refine XS.dup X36.here hx rfl (hb hby at_238) rfl rfl ?_
        show Steps p.tables e below (T36.setTop (mkF m 239 #[.val (.int x1), .val (.int x2), .val (.int x3), .val (.int x4), .val (.int x5), .val (.int (0 : Int32)), .val (.int (0 : Int32)), .val (.int vb7), .val (.int vb8), .val (.int vk), .val (.int vc0), .val (.int vc1), .val (.int vd0), .val (.int vd1), .val (.int vp1), .val (.int vp2), .val (.ref b18), .val (.ref b27), .unset, .unset, .unset] [(.ref b36), (.ref b36)])) _
        refine XS.aload X36.here hx rfl (hb hby at_239) rfl rfl ?_
        show Steps p.tables e below (T36.setTop (mkF m 241 #[.val (.int x1), .val (.int x2), .val (.int x3), .val (.int x4), .val (.int x5), .val (.int (0 : Int32)), .val (.int (0 : Int32)), .val (.int vb7), .val (.int vb8), .val (.int vk), .val (.int vc0), .val (.int vc1), .val (.int vd0), .val (.int vd1), .val (.int vp1), .val (.int vp2), .val (.ref b18), .val (.ref b27), .unset, .unset, .unset] [(.ref b18), (.ref b36), (.ref b36)])) _
        refine XS.iload X36.here hx rfl (hb hby at_241) rfl ?_
        show Steps p.tables e below (T36.setTop (mkF m 243 #[.val (.int x1), .val (.int x2), .val (.int x3), .val (.int x4), .val (.int x5), .val (.int (0 : Int32)), .val (.int (0 : Int32)), .val (.int vb7), .val (.int vb8), .val (.int vk), .val (.int vc0), .val (.int vc1), .val (.int vd0), .val (.int vd1), .val (.int vp1), .val (.int vp2), .val (.ref b18), .val (.ref b27), .unset, .unset, .unset] [(.int vp1), (.ref b18), (.ref b36), (.ref b36)])) _
        refine st38.trans ?_
        show Steps p.tables e below (T38.setTop (mkF m 246 #[.val (.int x1), .val (.int x2), .val (.int x3), .val (.int x4), .val (.int x5), .val (.int (0 : Int32)), .val (.int (0 : Int32)), .val (.int vb7), .val (.int vb8), .val (.int vk), .val (.int vc0), .val (.int vc1), .val (.int vd0), .val (.int vd1), .val (.int vp1), .val (.int vp2), .val (.ref b18), .val (.ref b27), .unset, .unset, .unset] [(.ref b36)])) _
        refine XS.astore X38.here hx rfl (hb hby at_246) rfl rfl (l' := #[.val (.int x1), .val (.int x2), .val (.int x3), .val (.int x4), .val (.int x5), .val (.int (0 : Int32)), .val (.int (0 : Int32)), .val (.int vb7), .val (.int vb8), .val (.int vk), .val (.int vc0), .val (.int vc1), .val (.int vd0), .val (.int vd1), .val (.int vp1), .val (.int vp2), .val (.ref b18), .val (.ref b27), .val (.ref b36), .unset, .unset]) rfl ?_
        show Steps p.tables e below (T38.setTop (mkF m 248 #[.val (.int x1), .val (.int x2), .val (.int x3), .val (.int x4), .val (.int x5), .val (.int (0 : Int32)), .val (.int (0 : Int32)), .val (.int vb7), .val (.int vb8), .val (.int vk), .val (.int vc0), .val (.int vc1), .val (.int vd0), .val (.int vd1), .val (.int vp1), .val (.int vp2), .val (.ref b18), .val (.ref b27), .val (.ref b36), .unset, .unset] [])) _
        refine st40 _ ?_
        show Steps p.tables e below (T40.setTop (mkF m 251 #[.val (.int x1), .val (.int x2), .val (.int x3), .val (.int x4), .val (.int x5), .val (.int (0 : Int32)), .val (.int (0 : Int32)), .val (.int vb7), .val (.int vb8), .val (.int vk), .val (.int vc0), .val (.int vc1), .val (.int vd0), .val (.int vd1), .val (.int vp1), .val (.int vp2), .val (.ref b18), .val (.ref b27), .val (.ref b36), .unset, .unset] [(.ref b40)])) _
        refine XS.dup X40.here hx rfl (hb hby at_251) rfl rfl ?_
        show Steps p.tables e below (T40.setTop (mkF m 252 #[.val (.int x1), .val (.int x2), .val (.int x3), .val (.int x4), .val (.int x5), .val (.int (0 : Int32)), .val (.int (0 : Int32)), .val (.int vb7), .val (.int vb8), .val (.int vk), .val (.int vc0), .val (.int vc1), .val (.int vd0), .val (.int vd1), .val (.int vp1), .val (.int vp2), .val (.ref b18), .val (.ref b27), .val (.ref b36), .unset, .unset] [(.ref b40), (.ref b40)])) _
        refine XS.aload X40.here hx rfl (hb hby at_252) rfl rfl ?_
        show Steps p.tables e below (T40.setTop (mkF m 254 #[.val (.int x1), .val (.int x2), .val (.int x3), .val (.int x4), .val (.int x5), .val (.int (0 : Int32)), .val (.int (0 : Int32)), .val (.int vb7), .val (.int vb8), .val (.int vk), .val (.int vc0), .val (.int vc1), .val (.int vd0), .val (.int vd1), .val (.int vp1), .val (.int vp2), .val (.ref b18), .val (.ref b27), .val (.ref b36), .unset, .unset] [(.ref b27), (.ref b40), (.ref b40)])) _
        refine XS.iload X40.here hx rfl (hb hby at_254) rfl ?_
        show Steps p.tables e below (T40.setTop (mkF m 256 #[.val (.int x1), .val (.int x2), .val (.int x3), .val (.int x4), .val (.int x5), .val (.int (0 : Int32)), .val (.int (0 : Int32)), .val (.int vb7), .val (.int vb8), .val (.int vk), .val (.int vc0), .val (.int vc1), .val (.int vd0), .val (.int vd1), .val (.int vp1), .val (.int vp2), .val (.ref b18), .val (.ref b27), .val (.ref b36), .unset, .unset] [(.int vp2), (.ref b27), (.ref b40), (.ref b40)])) _
        refine st42.trans ?_
        show Steps p.tables e below (T42.setTop (mkF m 259 #[.val (.int x1), .val (.int x2), .val (.int x3), .val (.int x4), .val (.int x5), .val (.int (0 : Int32)), .val (.int (0 : Int32)), .val (.int vb7), .val (.int vb8), .val (.int vk), .val (.int vc0), .val (.int vc1), .val (.int vd0), .val (.int vd1), .val (.int vp1), .val (.int vp2), .val (.ref b18), .val (.ref b27), .val (.ref b36), .unset, .unset] [(.ref b40)])) _
        refine XS.astore X42.here hx rfl (hb hby at_259) rfl rfl (l' := #[.val (.int x1), .val (.int x2), .val (.int x3), .val (.int x4), .val (.int x5), .val (.int (0 : Int32)), .val (.int (0 : Int32)), .val (.int vb7), .val (.int vb8), .val (.int vk), .val (.int vc0), .val (.int vc1), .val (.int vd0), .val (.int vd1), .val (.int vp1), .val (.int vp2), .val (.ref b18), .val (.ref b27), .val (.ref b36), .val (.ref b40), .unset]) rfl ?_
        show Steps p.tables e below (T42.setTop (mkF m 261 #[.val (.int x1), .val (.int x2), .val (.int x3), .val (.int x4), .val (.int x5), .val (.int (0 : Int32)), .val (.int (0 : Int32)), .val (.int vb7), .val (.int vb8), .val (.int vk), .val (.int vc0), .val (.int vc1), .val (.int vd0), .val (.int vd1), .val (.int vp1), .val (.int vp2), .val (.ref b18), .val (.ref b27), .val (.ref b36), .val (.ref b40), .unset] [])) _
        refine XS.iload X42.here hx rfl (hb hby at_261) rfl ?_
        show Steps p.tables e below (T42.setTop (mkF m 263 #[.val (.int x1), .val (.int x2), .val (.int x3), .val (.int x4), .val (.int x5), .val (.int (0 : Int32)), .val (.int (0 : Int32)), .val (.int vb7), .val (.int vb8), .val (.int vk), .val (.int vc0), .val (.int vc1), .val (.int vd0), .val (.int vd1), .val (.int vp1), .val (.int vp2), .val (.ref b18), .val (.ref b27), .val (.ref b36), .val (.ref b40), .unset] [(.int vk)])) _
        refine XS.iconst X42.here hx rfl (hb hby at_263) ?_
        show Steps p.tables e below (T42.setTop (mkF m 264 #[.val (.int x1), .val (.int x2), .val (.int x3), .val (.int x4), .val (.int x5), .val (.int (0 : Int32)), .val (.int (0 : Int32)), .val (.int vb7), .val (.int vb8), .val (.int vk), .val (.int vc0), .val (.int vc1), .val (.int vd0), .val (.int vd1), .val (.int vp1), .val (.int vp2), .val (.ref b18), .val (.ref b27), .val (.ref b36), .val (.ref b40), .unset] [(.int (1 : Int32)), (.int vk)])) _
        exact k)
      by_cases hc45 : vk = (1 : Int32)
      · skip
        obtain ⟨cq46, kq46, q46a, q46b, q46c⟩ := isOf hZ rfl Ee38
        obtain ⟨_, _, ⟨T46, L46, k46, n46⟩, -, X46, ⟨Lc46, hQ46, l46, y46, z46⟩, st46⟩ := X42.virtualBack hx (y := (⟨"com/example/vigilant_consumer/vigilantconsumer/TopicPartition", "equals", "(Ljava/lang/Object;)Z"⟩ : MethodName)) (z := (⟨"com/example/vigilant_consumer/vigilantconsumer/TopicPartition", "equals", "(Ljava/lang/Object;)Z"⟩ : MethodName)) hown (mvT hZ (hw _ (List.mem_of_getElem? (i := 59) rfl))) (mvT hZ (hw _ (List.mem_of_getElem? (i := 60) rfl))) (notFace_of_selects (args := #[]) (mvT hZ (hw _ (List.mem_of_getElem? (i := 62) rfl)))) (mvT hZ (hw _ (List.mem_of_getElem? (i := 62) rfl))) (mvT hZ (hw _ (List.mem_of_getElem? (i := 61) rfl))) (by decide) (backOf (W := 0) (own_teqN l Z a0 hw [] b36  T42.heap n0 Z43 ) hZ (hw _ (List.mem_of_getElem? (i := 63) rfl)) (hw _ (List.mem_of_getElem? (i := 33) rfl)) (by decide) (by decide)) q46a q46c (g := (mkF m 270 #[.val (.int x1), .val (.int x2), .val (.int x3), .val (.int x4), .val (.int x5), .val (.int (0 : Int32)), .val (.int (0 : Int32)), .val (.int vb7), .val (.int vb8), .val (.int vk), .val (.int vc0), .val (.int vc1), .val (.int vd0), .val (.int vd1), .val (.int vp1), .val (.int vp2), .val (.ref b18), .val (.ref b27), .val (.ref b36), .val (.ref b40), .unset] [.null, (.ref b36)])) rfl (by rw [hml]; rfl) (Steps.refl _) (argsL := [.null]) (rest := []) (lenOf own_pd8 rfl) rfl (by show 2 * 0 + _ ≤ _; exact Nat.le_of_eq rfl) (hb hby at_270) (fun _ _ => ⟨rfl, rfl, (by decide : 12 + 0 ≤ _), (by decide : 64 + 0 ≤ _)⟩)
        dsimp only [Pt.U, Pt.locs, Pt.cells, Pt.slots] at X46 l46 y46 z46 st46 hQ46
        subst l46 y46 z46
        obtain ⟨rfl, N46q, e46⟩ := hQ46
        have N46 := Fr.app N42 N46q
        obtain ⟨fs, hr, hrun, hended, hRW⟩ := X46.leaveW hS (by rw [e46]; exact hk) (v := some (.int (1 : Int32))) (fun h => by rw [Bd.returns] at h; cases h)
        refine ⟨_, _, pre44 _ ?_, hrun, hended, _, _, rfl, ?_, hRW.1, hRW.2.1, hRW.2.2.1, hRW.2.2.2.mono (by decide) (by decide)⟩
        · refine XS.icmpNo X42.here hx rfl (hb hby at_264) rfl (teq hc45).2 ?_
          show Steps p.tables e below (T42.setTop (mkF m 267 #[.val (.int x1), .val (.int x2), .val (.int x3), .val (.int x4), .val (.int x5), .val (.int (0 : Int32)), .val (.int (0 : Int32)), .val (.int vb7), .val (.int vb8), .val (.int vk), .val (.int vc0), .val (.int vc1), .val (.int vd0), .val (.int vd1), .val (.int vp1), .val (.int vp2), .val (.ref b18), .val (.ref b27), .val (.ref b36), .val (.ref b40), .unset] [])) _
          refine XS.aload X42.here hx rfl (hb hby at_267) rfl rfl ?_
          show Steps p.tables e below (T42.setTop (mkF m 269 #[.val (.int x1), .val (.int x2), .val (.int x3), .val (.int x4), .val (.int x5), .val (.int (0 : Int32)), .val (.int (0 : Int32)), .val (.int vb7), .val (.int vb8), .val (.int vk), .val (.int vc0), .val (.int vc1), .val (.int vd0), .val (.int vd1), .val (.int vp1), .val (.int vp2), .val (.ref b18), .val (.ref b27), .val (.ref b36), .val (.ref b40), .unset] [(.ref b36)])) _
          refine XS.aconstNull X42.here hx rfl (hb hby at_269) ?_
          show Steps p.tables e below (T42.setTop (mkF m 270 #[.val (.int x1), .val (.int x2), .val (.int x3), .val (.int x4), .val (.int x5), .val (.int (0 : Int32)), .val (.int (0 : Int32)), .val (.int vb7), .val (.int vb8), .val (.int vk), .val (.int vc0), .val (.int vc1), .val (.int vd0), .val (.int vd1), .val (.int vp1), .val (.int vp2), .val (.ref b18), .val (.ref b27), .val (.ref b36), .val (.ref b40), .unset] [.null, (.ref b36)])) _
          refine st46.trans ?_
          show Steps p.tables e below (T46.setTop (mkF m 273 #[.val (.int x1), .val (.int x2), .val (.int x3), .val (.int x4), .val (.int x5), .val (.int (0 : Int32)), .val (.int (0 : Int32)), .val (.int vb7), .val (.int vb8), .val (.int vk), .val (.int vc0), .val (.int vc1), .val (.int vd0), .val (.int vd1), .val (.int vp1), .val (.int vp2), .val (.ref b18), .val (.ref b27), .val (.ref b36), .val (.ref b40), .unset] [(.int (0 : Int32))])) _
          refine XS.ifNo X46.here hx rfl (hb hby at_273) rfl ((if0 _ _).trans (teq (by decide : (0 : Int32) = (0 : Int32))).2) ?_
          show Steps p.tables e below (T46.setTop (mkF m 276 #[.val (.int x1), .val (.int x2), .val (.int x3), .val (.int x4), .val (.int x5), .val (.int (0 : Int32)), .val (.int (0 : Int32)), .val (.int vb7), .val (.int vb8), .val (.int vk), .val (.int vc0), .val (.int vc1), .val (.int vd0), .val (.int vd1), .val (.int vp1), .val (.int vp2), .val (.ref b18), .val (.ref b27), .val (.ref b36), .val (.ref b40), .unset] [])) _
          refine XS.iconst X46.here hx rfl (hb hby at_276) ?_
          show Steps p.tables e below (T46.setTop (mkF m 277 #[.val (.int x1), .val (.int x2), .val (.int x3), .val (.int x4), .val (.int x5), .val (.int (0 : Int32)), .val (.int (0 : Int32)), .val (.int vb7), .val (.int vb8), .val (.int vk), .val (.int vc0), .val (.int vc1), .val (.int vd0), .val (.int vd1), .val (.int vp1), .val (.int vp2), .val (.ref b18), .val (.ref b27), .val (.ref b36), .val (.ref b40), .unset] [(.int (1 : Int32))])) _
          refine XS.goto X46.here hx rfl (pc0 := 277) (pc' := 281) rfl (hb hby at_277) (by decide) (by decide) ?_
          show Steps p.tables e below (T46.setTop (mkF m 281 #[.val (.int x1), .val (.int x2), .val (.int x3), .val (.int x4), .val (.int x5), .val (.int (0 : Int32)), .val (.int (0 : Int32)), .val (.int vb7), .val (.int vb8), .val (.int vk), .val (.int vc0), .val (.int vc1), .val (.int vd0), .val (.int vd1), .val (.int vp1), .val (.int vp2), .val (.ref b18), .val (.ref b27), .val (.ref b36), .val (.ref b40), .unset] [(.int (1 : Int32))])) _
          exact retN X46 hx (t := .boolean) Bd.returns (by simp) (hb hby at_281) hr
        · show own_Q_own_law Z x1 x2 x3 x4 x5 cz h0 n0 _ T46.heap _
          rw [e46]
          exact ⟨rfl, N46⟩
      · skip
        have pre47 : ∀ t, Steps p.tables e below (T42.setTop (mkF m 285 #[.val (.int x1), .val (.int x2), .val (.int x3), .val (.int x4), .val (.int x5), .val (.int (0 : Int32)), .val (.int (0 : Int32)), .val (.int vb7), .val (.int vb8), .val (.int vk), .val (.int vc0), .val (.int vc1), .val (.int vd0), .val (.int vd1), .val (.int vp1), .val (.int vp2), .val (.ref b18), .val (.ref b27), .val (.ref b36), .val (.ref b40), .unset] [(.int (2 : Int32)), (.int vk)])) t → Steps p.tables e below (s₁.setTop (entryFrame m #[(.int x1), (.int x2), (.int x3), (.int x4), (.int x5)] maxLocals)) t := fun t k => pre44 t (by
          refine XS.icmpYes X42.here hx rfl (pc0 := 264) (pc' := 282) rfl (hb hby at_264) rfl (feq hc45).2 (by decide) (by decide) ?_
          show Steps p.tables e below (T42.setTop (mkF m 282 #[.val (.int x1), .val (.int x2), .val (.int x3), .val (.int x4), .val (.int x5), .val (.int (0 : Int32)), .val (.int (0 : Int32)), .val (.int vb7), .val (.int vb8), .val (.int vk), .val (.int vc0), .val (.int vc1), .val (.int vd0), .val (.int vd1), .val (.int vp1), .val (.int vp2), .val (.ref b18), .val (.ref b27), .val (.ref b36), .val (.ref b40), .unset] [])) _
          refine XS.iload X42.here hx rfl (hb hby at_282) rfl ?_
          show Steps p.tables e below (T42.setTop (mkF m 284 #[.val (.int x1), .val (.int x2), .val (.int x3), .val (.int x4), .val (.int x5), .val (.int (0 : Int32)), .val (.int (0 : Int32)), .val (.int vb7), .val (.int vb8), .val (.int vk), .val (.int vc0), .val (.int vc1), .val (.int vd0), .val (.int vd1), .val (.int vp1), .val (.int vp2), .val (.ref b18), .val (.ref b27), .val (.ref b36), .val (.ref b40), .unset] [(.int vk)])) _
          refine XS.iconst X42.here hx rfl (hb hby at_284) ?_
          show Steps p.tables e below (T42.setTop (mkF m 285 #[.val (.int x1), .val (.int x2), .val (.int x3), .val (.int x4), .val (.int x5), .val (.int (0 : Int32)), .val (.int (0 : Int32)), .val (.int vb7), .val (.int vb8), .val (.int vk), .val (.int vc0), .val (.int vc1), .val (.int vd0), .val (.int vd1), .val (.int vp1), .val (.int vp2), .val (.ref b18), .val (.ref b27), .val (.ref b36), .val (.ref b40), .unset] [(.int (2 : Int32)), (.int vk)])) _
          exact k)
        by_cases hc48 : vk = (2 : Int32)
        · skip
          obtain ⟨cq49, kq49, q49a, q49b, q49c⟩ := isOf hZ rfl Ee38
          obtain ⟨_, _, ⟨T49, L49, k49, n49⟩, -, X49, ⟨Lc49, hQ49, l49, y49, z49⟩, st49⟩ := X42.virtualBack hx (y := (⟨"com/example/vigilant_consumer/vigilantconsumer/TopicPartition", "equals", "(Ljava/lang/Object;)Z"⟩ : MethodName)) (z := (⟨"com/example/vigilant_consumer/vigilantconsumer/TopicPartition", "equals", "(Ljava/lang/Object;)Z"⟩ : MethodName)) hown (mvT hZ (hw _ (List.mem_of_getElem? (i := 59) rfl))) (mvT hZ (hw _ (List.mem_of_getElem? (i := 60) rfl))) (notFace_of_selects (args := #[]) (mvT hZ (hw _ (List.mem_of_getElem? (i := 62) rfl)))) (mvT hZ (hw _ (List.mem_of_getElem? (i := 62) rfl))) (mvT hZ (hw _ (List.mem_of_getElem? (i := 61) rfl))) (by decide) (backOf (W := 0) (own_teqO l Z a0 hw [] b36 b18  T42.heap n0 Z43 Ee25) hZ (hw _ (List.mem_of_getElem? (i := 63) rfl)) (hw _ (List.mem_of_getElem? (i := 33) rfl)) (by decide) (by decide)) q49a q49c (g := (mkF m 292 #[.val (.int x1), .val (.int x2), .val (.int x3), .val (.int x4), .val (.int x5), .val (.int (0 : Int32)), .val (.int (0 : Int32)), .val (.int vb7), .val (.int vb8), .val (.int vk), .val (.int vc0), .val (.int vc1), .val (.int vd0), .val (.int vd1), .val (.int vp1), .val (.int vp2), .val (.ref b18), .val (.ref b27), .val (.ref b36), .val (.ref b40), .unset] [(.ref b18), (.ref b36)])) rfl (by rw [hml]; rfl) (Steps.refl _) (argsL := [(.ref b18)]) (rest := []) (lenOf own_pd8 rfl) rfl (by show 2 * 0 + _ ≤ _; exact Nat.le_of_eq rfl) (hb hby at_292) (fun _ _ => ⟨rfl, rfl, (by decide : 12 + 0 ≤ _), (by decide : 64 + 0 ≤ _)⟩)
          dsimp only [Pt.U, Pt.locs, Pt.cells, Pt.slots] at X49 l49 y49 z49 st49 hQ49
          subst l49 y49 z49
          obtain ⟨rfl, N49q, e49⟩ := hQ49
          have N49 := Fr.app N42 N49q
          obtain ⟨fs, hr, hrun, hended, hRW⟩ := X49.leaveW hS (by rw [e49]; exact hk) (v := some (.int (1 : Int32))) (fun h => by rw [Bd.returns] at h; cases h)
          refine ⟨_, _, pre47 _ ?_, hrun, hended, _, _, rfl, ?_, hRW.1, hRW.2.1, hRW.2.2.1, hRW.2.2.2.mono (by decide) (by decide)⟩
          · refine XS.icmpNo X42.here hx rfl (hb hby at_285) rfl (teq hc48).2 ?_
            show Steps p.tables e below (T42.setTop (mkF m 288 #[.val (.int x1), .val (.int x2), .val (.int x3), .val (.int x4), .val (.int x5), .val (.int (0 : Int32)), .val (.int (0 : Int32)), .val (.int vb7), .val (.int vb8), .val (.int vk), .val (.int vc0), .val (.int vc1), .val (.int vd0), .val (.int vd1), .val (.int vp1), .val (.int vp2), .val (.ref b18), .val (.ref b27), .val (.ref b36), .val (.ref b40), .unset] [])) _
            refine XS.aload X42.here hx rfl (hb hby at_288) rfl rfl ?_
            show Steps p.tables e below (T42.setTop (mkF m 290 #[.val (.int x1), .val (.int x2), .val (.int x3), .val (.int x4), .val (.int x5), .val (.int (0 : Int32)), .val (.int (0 : Int32)), .val (.int vb7), .val (.int vb8), .val (.int vk), .val (.int vc0), .val (.int vc1), .val (.int vd0), .val (.int vd1), .val (.int vp1), .val (.int vp2), .val (.ref b18), .val (.ref b27), .val (.ref b36), .val (.ref b40), .unset] [(.ref b36)])) _
            refine XS.aload X42.here hx rfl (hb hby at_290) rfl rfl ?_
            show Steps p.tables e below (T42.setTop (mkF m 292 #[.val (.int x1), .val (.int x2), .val (.int x3), .val (.int x4), .val (.int x5), .val (.int (0 : Int32)), .val (.int (0 : Int32)), .val (.int vb7), .val (.int vb8), .val (.int vk), .val (.int vc0), .val (.int vc1), .val (.int vd0), .val (.int vd1), .val (.int vp1), .val (.int vp2), .val (.ref b18), .val (.ref b27), .val (.ref b36), .val (.ref b40), .unset] [(.ref b18), (.ref b36)])) _
            refine st49.trans ?_
            show Steps p.tables e below (T49.setTop (mkF m 295 #[.val (.int x1), .val (.int x2), .val (.int x3), .val (.int x4), .val (.int x5), .val (.int (0 : Int32)), .val (.int (0 : Int32)), .val (.int vb7), .val (.int vb8), .val (.int vk), .val (.int vc0), .val (.int vc1), .val (.int vd0), .val (.int vd1), .val (.int vp1), .val (.int vp2), .val (.ref b18), .val (.ref b27), .val (.ref b36), .val (.ref b40), .unset] [(.int (0 : Int32))])) _
            refine XS.ifNo X49.here hx rfl (hb hby at_295) rfl ((if0 _ _).trans (teq (by decide : (0 : Int32) = (0 : Int32))).2) ?_
            show Steps p.tables e below (T49.setTop (mkF m 298 #[.val (.int x1), .val (.int x2), .val (.int x3), .val (.int x4), .val (.int x5), .val (.int (0 : Int32)), .val (.int (0 : Int32)), .val (.int vb7), .val (.int vb8), .val (.int vk), .val (.int vc0), .val (.int vc1), .val (.int vd0), .val (.int vd1), .val (.int vp1), .val (.int vp2), .val (.ref b18), .val (.ref b27), .val (.ref b36), .val (.ref b40), .unset] [])) _
            refine XS.iconst X49.here hx rfl (hb hby at_298) ?_
            show Steps p.tables e below (T49.setTop (mkF m 299 #[.val (.int x1), .val (.int x2), .val (.int x3), .val (.int x4), .val (.int x5), .val (.int (0 : Int32)), .val (.int (0 : Int32)), .val (.int vb7), .val (.int vb8), .val (.int vk), .val (.int vc0), .val (.int vc1), .val (.int vd0), .val (.int vd1), .val (.int vp1), .val (.int vp2), .val (.ref b18), .val (.ref b27), .val (.ref b36), .val (.ref b40), .unset] [(.int (1 : Int32))])) _
            refine XS.goto X49.here hx rfl (pc0 := 299) (pc' := 303) rfl (hb hby at_299) (by decide) (by decide) ?_
            show Steps p.tables e below (T49.setTop (mkF m 303 #[.val (.int x1), .val (.int x2), .val (.int x3), .val (.int x4), .val (.int x5), .val (.int (0 : Int32)), .val (.int (0 : Int32)), .val (.int vb7), .val (.int vb8), .val (.int vk), .val (.int vc0), .val (.int vc1), .val (.int vd0), .val (.int vd1), .val (.int vp1), .val (.int vp2), .val (.ref b18), .val (.ref b27), .val (.ref b36), .val (.ref b40), .unset] [(.int (1 : Int32))])) _
            exact retN X49 hx (t := .boolean) Bd.returns (by simp) (hb hby at_303) hr
          · show own_Q_own_law Z x1 x2 x3 x4 x5 cz h0 n0 _ T49.heap _
            rw [e49]
            exact ⟨rfl, N49⟩
        · skip
          have pre50 : ∀ t, Steps p.tables e below (T42.setTop (mkF m 307 #[.val (.int x1), .val (.int x2), .val (.int x3), .val (.int x4), .val (.int x5), .val (.int (0 : Int32)), .val (.int (0 : Int32)), .val (.int vb7), .val (.int vb8), .val (.int vk), .val (.int vc0), .val (.int vc1), .val (.int vd0), .val (.int vd1), .val (.int vp1), .val (.int vp2), .val (.ref b18), .val (.ref b27), .val (.ref b36), .val (.ref b40), .unset] [(.int (3 : Int32)), (.int vk)])) t → Steps p.tables e below (s₁.setTop (entryFrame m #[(.int x1), (.int x2), (.int x3), (.int x4), (.int x5)] maxLocals)) t := fun t k => pre47 t (by
            refine XS.icmpYes X42.here hx rfl (pc0 := 285) (pc' := 304) rfl (hb hby at_285) rfl (feq hc48).2 (by decide) (by decide) ?_
            show Steps p.tables e below (T42.setTop (mkF m 304 #[.val (.int x1), .val (.int x2), .val (.int x3), .val (.int x4), .val (.int x5), .val (.int (0 : Int32)), .val (.int (0 : Int32)), .val (.int vb7), .val (.int vb8), .val (.int vk), .val (.int vc0), .val (.int vc1), .val (.int vd0), .val (.int vd1), .val (.int vp1), .val (.int vp2), .val (.ref b18), .val (.ref b27), .val (.ref b36), .val (.ref b40), .unset] [])) _
            refine XS.iload X42.here hx rfl (hb hby at_304) rfl ?_
            show Steps p.tables e below (T42.setTop (mkF m 306 #[.val (.int x1), .val (.int x2), .val (.int x3), .val (.int x4), .val (.int x5), .val (.int (0 : Int32)), .val (.int (0 : Int32)), .val (.int vb7), .val (.int vb8), .val (.int vk), .val (.int vc0), .val (.int vc1), .val (.int vd0), .val (.int vd1), .val (.int vp1), .val (.int vp2), .val (.ref b18), .val (.ref b27), .val (.ref b36), .val (.ref b40), .unset] [(.int vk)])) _
            refine XS.iconst X42.here hx rfl (hb hby at_306) ?_
            show Steps p.tables e below (T42.setTop (mkF m 307 #[.val (.int x1), .val (.int x2), .val (.int x3), .val (.int x4), .val (.int x5), .val (.int (0 : Int32)), .val (.int (0 : Int32)), .val (.int vb7), .val (.int vb8), .val (.int vk), .val (.int vc0), .val (.int vc1), .val (.int vd0), .val (.int vd1), .val (.int vp1), .val (.int vp2), .val (.ref b18), .val (.ref b27), .val (.ref b36), .val (.ref b40), .unset] [(.int (3 : Int32)), (.int vk)])) _
            exact k)
          by_cases hc51 : vk = (3 : Int32)
          · skip
            obtain ⟨cq52, kq52, q52a, q52b, q52c⟩ := isOf hZ rfl Ee38
            obtain ⟨_, _, ⟨T52, L52, k52, n52⟩, -, X52, ⟨Lc52, hQ52, l52, y52, z52⟩, st52⟩ := X42.virtualBack hx (y := (⟨"com/example/vigilant_consumer/vigilantconsumer/TopicPartition", "equals", "(Ljava/lang/Object;)Z"⟩ : MethodName)) (z := (⟨"com/example/vigilant_consumer/vigilantconsumer/TopicPartition", "equals", "(Ljava/lang/Object;)Z"⟩ : MethodName)) hown (mvT hZ (hw _ (List.mem_of_getElem? (i := 59) rfl))) (mvT hZ (hw _ (List.mem_of_getElem? (i := 60) rfl))) (notFace_of_selects (args := #[]) (mvT hZ (hw _ (List.mem_of_getElem? (i := 62) rfl)))) (mvT hZ (hw _ (List.mem_of_getElem? (i := 62) rfl))) (mvT hZ (hw _ (List.mem_of_getElem? (i := 61) rfl))) (by decide) (backOf (W := 0) (own_teqS l Z a0 hw [] b36 b36 b18 vp1 T42.heap n0 Z43 Ee38 Ft38 Fp38 Ft38 Fp38 Ee25) hZ (hw _ (List.mem_of_getElem? (i := 63) rfl)) (hw _ (List.mem_of_getElem? (i := 33) rfl)) (by decide) (by decide)) q52a q52c (g := (mkF m 314 #[.val (.int x1), .val (.int x2), .val (.int x3), .val (.int x4), .val (.int x5), .val (.int (0 : Int32)), .val (.int (0 : Int32)), .val (.int vb7), .val (.int vb8), .val (.int vk), .val (.int vc0), .val (.int vc1), .val (.int vd0), .val (.int vd1), .val (.int vp1), .val (.int vp2), .val (.ref b18), .val (.ref b27), .val (.ref b36), .val (.ref b40), .unset] [(.ref b36), (.ref b36)])) rfl (by rw [hml]; rfl) (Steps.refl _) (argsL := [(.ref b36)]) (rest := []) (lenOf own_pd8 rfl) rfl (by show 2 * 0 + _ ≤ _; exact Nat.le_of_eq rfl) (hb hby at_314) (fun _ _ => ⟨rfl, rfl, (by decide : 12 + 0 ≤ _), (by decide : 64 + 0 ≤ _)⟩)
            dsimp only [Pt.U, Pt.locs, Pt.cells, Pt.slots] at X52 l52 y52 z52 st52 hQ52
            subst l52 y52 z52
            obtain ⟨rfl, N52q, e52⟩ := hQ52
            have N52 := Fr.app N42 N52q
            obtain ⟨fs, hr, hrun, hended, hRW⟩ := X52.leaveW hS (by rw [e52]; exact hk) (v := some (.int (1 : Int32))) (fun h => by rw [Bd.returns] at h; cases h)
            refine ⟨_, _, pre50 _ ?_, hrun, hended, _, _, rfl, ?_, hRW.1, hRW.2.1, hRW.2.2.1, hRW.2.2.2.mono (by decide) (by decide)⟩
            · refine XS.icmpNo X42.here hx rfl (hb hby at_307) rfl (teq hc51).2 ?_
              show Steps p.tables e below (T42.setTop (mkF m 310 #[.val (.int x1), .val (.int x2), .val (.int x3), .val (.int x4), .val (.int x5), .val (.int (0 : Int32)), .val (.int (0 : Int32)), .val (.int vb7), .val (.int vb8), .val (.int vk), .val (.int vc0), .val (.int vc1), .val (.int vd0), .val (.int vd1), .val (.int vp1), .val (.int vp2), .val (.ref b18), .val (.ref b27), .val (.ref b36), .val (.ref b40), .unset] [])) _
              refine XS.aload X42.here hx rfl (hb hby at_310) rfl rfl ?_
              show Steps p.tables e below (T42.setTop (mkF m 312 #[.val (.int x1), .val (.int x2), .val (.int x3), .val (.int x4), .val (.int x5), .val (.int (0 : Int32)), .val (.int (0 : Int32)), .val (.int vb7), .val (.int vb8), .val (.int vk), .val (.int vc0), .val (.int vc1), .val (.int vd0), .val (.int vd1), .val (.int vp1), .val (.int vp2), .val (.ref b18), .val (.ref b27), .val (.ref b36), .val (.ref b40), .unset] [(.ref b36)])) _
              refine XS.aload X42.here hx rfl (hb hby at_312) rfl rfl ?_
              show Steps p.tables e below (T42.setTop (mkF m 314 #[.val (.int x1), .val (.int x2), .val (.int x3), .val (.int x4), .val (.int x5), .val (.int (0 : Int32)), .val (.int (0 : Int32)), .val (.int vb7), .val (.int vb8), .val (.int vk), .val (.int vc0), .val (.int vc1), .val (.int vd0), .val (.int vd1), .val (.int vp1), .val (.int vp2), .val (.ref b18), .val (.ref b27), .val (.ref b36), .val (.ref b40), .unset] [(.ref b36), (.ref b36)])) _
              refine st52.trans ?_
              show Steps p.tables e below (T52.setTop (mkF m 317 #[.val (.int x1), .val (.int x2), .val (.int x3), .val (.int x4), .val (.int x5), .val (.int (0 : Int32)), .val (.int (0 : Int32)), .val (.int vb7), .val (.int vb8), .val (.int vk), .val (.int vc0), .val (.int vc1), .val (.int vd0), .val (.int vd1), .val (.int vp1), .val (.int vp2), .val (.ref b18), .val (.ref b27), .val (.ref b36), .val (.ref b40), .unset] [(.int (1 : Int32))])) _
              exact retN X52 hx (t := .boolean) Bd.returns (by simp) (hb hby at_317) hr
            · show own_Q_own_law Z x1 x2 x3 x4 x5 cz h0 n0 _ T52.heap _
              rw [e52]
              exact ⟨rfl, N52⟩
          · skip
            have pre55 : ∀ t, Steps p.tables e below (T42.setTop (mkF m 356 #[.val (.int x1), .val (.int x2), .val (.int x3), .val (.int x4), .val (.int x5), .val (.int (0 : Int32)), .val (.int (0 : Int32)), .val (.int vb7), .val (.int vb8), .val (.int vk), .val (.int vc0), .val (.int vc1), .val (.int vd0), .val (.int vd1), .val (.int vp1), .val (.int vp2), .val (.ref b18), .val (.ref b27), .val (.ref b36), .val (.ref b40), .unset] [(.int (if vp1 = vp2 then (if vc0 = vd0 then (1 : Int32) else (0 : Int32)) else (0 : Int32)))])) t → Steps p.tables e below (s₁.setTop (entryFrame m #[(.int x1), (.int x2), (.int x3), (.int x4), (.int x5)] maxLocals)) t := fun t k => pre50 t (by
              refine XS.icmpYes X42.here hx rfl (pc0 := 307) (pc' := 318) rfl (hb hby at_307) rfl (feq hc51).2 (by decide) (by decide) ?_
              show Steps p.tables e below (T42.setTop (mkF m 318 #[.val (.int x1), .val (.int x2), .val (.int x3), .val (.int x4), .val (.int x5), .val (.int (0 : Int32)), .val (.int (0 : Int32)), .val (.int vb7), .val (.int vb8), .val (.int vk), .val (.int vc0), .val (.int vc1), .val (.int vd0), .val (.int vd1), .val (.int vp1), .val (.int vp2), .val (.ref b18), .val (.ref b27), .val (.ref b36), .val (.ref b40), .unset] [])) _
              refine XS.iload X42.here hx rfl (hb hby at_318) rfl ?_
              show Steps p.tables e below (T42.setTop (mkF m 320 #[.val (.int x1), .val (.int x2), .val (.int x3), .val (.int x4), .val (.int x5), .val (.int (0 : Int32)), .val (.int (0 : Int32)), .val (.int vb7), .val (.int vb8), .val (.int vk), .val (.int vc0), .val (.int vc1), .val (.int vd0), .val (.int vd1), .val (.int vp1), .val (.int vp2), .val (.ref b18), .val (.ref b27), .val (.ref b36), .val (.ref b40), .unset] [(.int vp1)])) _
              refine XS.iload X42.here hx rfl (hb hby at_320) rfl ?_
              show Steps p.tables e below (T42.setTop (mkF m 322 #[.val (.int x1), .val (.int x2), .val (.int x3), .val (.int x4), .val (.int x5), .val (.int (0 : Int32)), .val (.int (0 : Int32)), .val (.int vb7), .val (.int vb8), .val (.int vk), .val (.int vc0), .val (.int vc1), .val (.int vd0), .val (.int vd1), .val (.int vp1), .val (.int vp2), .val (.ref b18), .val (.ref b27), .val (.ref b36), .val (.ref b40), .unset] [(.int vp2), (.int vp1)])) _
              by_cases hc53 : vp1 = vp2
              · skip
                refine XS.icmpNo X42.here hx rfl (hb hby at_322) rfl (teq hc53).2 ?_
                show Steps p.tables e below (T42.setTop (mkF m 325 #[.val (.int x1), .val (.int x2), .val (.int x3), .val (.int x4), .val (.int x5), .val (.int (0 : Int32)), .val (.int (0 : Int32)), .val (.int vb7), .val (.int vb8), .val (.int vk), .val (.int vc0), .val (.int vc1), .val (.int vd0), .val (.int vd1), .val (.int vp1), .val (.int vp2), .val (.ref b18), .val (.ref b27), .val (.ref b36), .val (.ref b40), .unset] [])) _
                refine XS.iload X42.here hx rfl (hb hby at_325) rfl ?_
                show Steps p.tables e below (T42.setTop (mkF m 327 #[.val (.int x1), .val (.int x2), .val (.int x3), .val (.int x4), .val (.int x5), .val (.int (0 : Int32)), .val (.int (0 : Int32)), .val (.int vb7), .val (.int vb8), .val (.int vk), .val (.int vc0), .val (.int vc1), .val (.int vd0), .val (.int vd1), .val (.int vp1), .val (.int vp2), .val (.ref b18), .val (.ref b27), .val (.ref b36), .val (.ref b40), .unset] [(.int (0 : Int32))])) _
                refine XS.iload X42.here hx rfl (hb hby at_327) rfl ?_
                show Steps p.tables e below (T42.setTop (mkF m 329 #[.val (.int x1), .val (.int x2), .val (.int x3), .val (.int x4), .val (.int x5), .val (.int (0 : Int32)), .val (.int (0 : Int32)), .val (.int vb7), .val (.int vb8), .val (.int vk), .val (.int vc0), .val (.int vc1), .val (.int vd0), .val (.int vd1), .val (.int vp1), .val (.int vp2), .val (.ref b18), .val (.ref b27), .val (.ref b36), .val (.ref b40), .unset] [(.int (0 : Int32)), (.int (0 : Int32))])) _
                refine XS.icmpNo X42.here hx rfl (hb hby at_329) rfl (teq (by decide : (0 : Int32) = (0 : Int32))).2 ?_
                show Steps p.tables e below (T42.setTop (mkF m 332 #[.val (.int x1), .val (.int x2), .val (.int x3), .val (.int x4), .val (.int x5), .val (.int (0 : Int32)), .val (.int (0 : Int32)), .val (.int vb7), .val (.int vb8), .val (.int vk), .val (.int vc0), .val (.int vc1), .val (.int vd0), .val (.int vd1), .val (.int vp1), .val (.int vp2), .val (.ref b18), .val (.ref b27), .val (.ref b36), .val (.ref b40), .unset] [])) _
                refine XS.iload X42.here hx rfl (hb hby at_332) rfl ?_
                show Steps p.tables e below (T42.setTop (mkF m 334 #[.val (.int x1), .val (.int x2), .val (.int x3), .val (.int x4), .val (.int x5), .val (.int (0 : Int32)), .val (.int (0 : Int32)), .val (.int vb7), .val (.int vb8), .val (.int vk), .val (.int vc0), .val (.int vc1), .val (.int vd0), .val (.int vd1), .val (.int vp1), .val (.int vp2), .val (.ref b18), .val (.ref b27), .val (.ref b36), .val (.ref b40), .unset] [(.int vc0)])) _
                refine XS.iload X42.here hx rfl (hb hby at_334) rfl ?_
                show Steps p.tables e below (T42.setTop (mkF m 336 #[.val (.int x1), .val (.int x2), .val (.int x3), .val (.int x4), .val (.int x5), .val (.int (0 : Int32)), .val (.int (0 : Int32)), .val (.int vb7), .val (.int vb8), .val (.int vk), .val (.int vc0), .val (.int vc1), .val (.int vd0), .val (.int vd1), .val (.int vp1), .val (.int vp2), .val (.ref b18), .val (.ref b27), .val (.ref b36), .val (.ref b40), .unset] [(.int vd0), (.int vc0)])) _
                by_cases hc54 : vc0 = vd0
                · skip
                  refine XS.icmpNo X42.here hx rfl (hb hby at_336) rfl (teq hc54).2 ?_
                  show Steps p.tables e below (T42.setTop (mkF m 339 #[.val (.int x1), .val (.int x2), .val (.int x3), .val (.int x4), .val (.int x5), .val (.int (0 : Int32)), .val (.int (0 : Int32)), .val (.int vb7), .val (.int vb8), .val (.int vk), .val (.int vc0), .val (.int vc1), .val (.int vd0), .val (.int vd1), .val (.int vp1), .val (.int vp2), .val (.ref b18), .val (.ref b27), .val (.ref b36), .val (.ref b40), .unset] [])) _
                  refine XS.iload X42.here hx rfl (hb hby at_339) rfl ?_
                  show Steps p.tables e below (T42.setTop (mkF m 341 #[.val (.int x1), .val (.int x2), .val (.int x3), .val (.int x4), .val (.int x5), .val (.int (0 : Int32)), .val (.int (0 : Int32)), .val (.int vb7), .val (.int vb8), .val (.int vk), .val (.int vc0), .val (.int vc1), .val (.int vd0), .val (.int vd1), .val (.int vp1), .val (.int vp2), .val (.ref b18), .val (.ref b27), .val (.ref b36), .val (.ref b40), .unset] [(.int (0 : Int32))])) _
                  refine XS.ifYes X42.here hx rfl (pc0 := 341) (pc' := 351) rfl (hb hby at_341) rfl ((if0 _ _).trans (teq (by decide : (0 : Int32) = (0 : Int32))).1) (by decide) (by decide) ?_
                  show Steps p.tables e below (T42.setTop (mkF m 351 #[.val (.int x1), .val (.int x2), .val (.int x3), .val (.int x4), .val (.int x5), .val (.int (0 : Int32)), .val (.int (0 : Int32)), .val (.int vb7), .val (.int vb8), .val (.int vk), .val (.int vc0), .val (.int vc1), .val (.int vd0), .val (.int vd1), .val (.int vp1), .val (.int vp2), .val (.ref b18), .val (.ref b27), .val (.ref b36), .val (.ref b40), .unset] [])) _
                  refine XS.iconst X42.here hx rfl (hb hby at_351) ?_
                  show Steps p.tables e below (T42.setTop (mkF m 352 #[.val (.int x1), .val (.int x2), .val (.int x3), .val (.int x4), .val (.int x5), .val (.int (0 : Int32)), .val (.int (0 : Int32)), .val (.int vb7), .val (.int vb8), .val (.int vk), .val (.int vc0), .val (.int vc1), .val (.int vd0), .val (.int vd1), .val (.int vp1), .val (.int vp2), .val (.ref b18), .val (.ref b27), .val (.ref b36), .val (.ref b40), .unset] [(.int (1 : Int32))])) _
                  refine XS.goto X42.here hx rfl (pc0 := 352) (pc' := 356) rfl (hb hby at_352) (by decide) (by decide) ?_
                  exact castTop (congrArg (fun z_ => (mkF m 356 #[.val (.int x1), .val (.int x2), .val (.int x3), .val (.int x4), .val (.int x5), .val (.int (0 : Int32)), .val (.int (0 : Int32)), .val (.int vb7), .val (.int vb8), .val (.int vk), .val (.int vc0), .val (.int vc1), .val (.int vd0), .val (.int vd1), .val (.int vp1), .val (.int vp2), .val (.ref b18), .val (.ref b27), .val (.ref b36), .val (.ref b40), .unset] [(.int z_)])) (show (1 : Int32) = (if vp1 = vp2 then (if vc0 = vd0 then (1 : Int32) else (0 : Int32)) else (0 : Int32)) from by rw [if_pos hc53, if_pos hc54])) k
                · skip
                  refine XS.icmpYes X42.here hx rfl (pc0 := 336) (pc' := 355) rfl (hb hby at_336) rfl (feq hc54).2 (by decide) (by decide) ?_
                  show Steps p.tables e below (T42.setTop (mkF m 355 #[.val (.int x1), .val (.int x2), .val (.int x3), .val (.int x4), .val (.int x5), .val (.int (0 : Int32)), .val (.int (0 : Int32)), .val (.int vb7), .val (.int vb8), .val (.int vk), .val (.int vc0), .val (.int vc1), .val (.int vd0), .val (.int vd1), .val (.int vp1), .val (.int vp2), .val (.ref b18), .val (.ref b27), .val (.ref b36), .val (.ref b40), .unset] [])) _
                  refine XS.iconst X42.here hx rfl (hb hby at_355) ?_
                  exact castTop (congrArg (fun z_ => (mkF m 356 #[.val (.int x1), .val (.int x2), .val (.int x3), .val (.int x4), .val (.int x5), .val (.int (0 : Int32)), .val (.int (0 : Int32)), .val (.int vb7), .val (.int vb8), .val (.int vk), .val (.int vc0), .val (.int vc1), .val (.int vd0), .val (.int vd1), .val (.int vp1), .val (.int vp2), .val (.ref b18), .val (.ref b27), .val (.ref b36), .val (.ref b40), .unset] [(.int z_)])) (show (0 : Int32) = (if vp1 = vp2 then (if vc0 = vd0 then (1 : Int32) else (0 : Int32)) else (0 : Int32)) from by rw [if_pos hc53, if_neg hc54])) k
              · skip
                refine XS.icmpYes X42.here hx rfl (pc0 := 322) (pc' := 355) rfl (hb hby at_322) rfl (feq hc53).2 (by decide) (by decide) ?_
                show Steps p.tables e below (T42.setTop (mkF m 355 #[.val (.int x1), .val (.int x2), .val (.int x3), .val (.int x4), .val (.int x5), .val (.int (0 : Int32)), .val (.int (0 : Int32)), .val (.int vb7), .val (.int vb8), .val (.int vk), .val (.int vc0), .val (.int vc1), .val (.int vd0), .val (.int vd1), .val (.int vp1), .val (.int vp2), .val (.ref b18), .val (.ref b27), .val (.ref b36), .val (.ref b40), .unset] [])) _
                refine XS.iconst X42.here hx rfl (hb hby at_355) ?_
                exact castTop (congrArg (fun z_ => (mkF m 356 #[.val (.int x1), .val (.int x2), .val (.int x3), .val (.int x4), .val (.int x5), .val (.int (0 : Int32)), .val (.int (0 : Int32)), .val (.int vb7), .val (.int vb8), .val (.int vk), .val (.int vc0), .val (.int vc1), .val (.int vd0), .val (.int vd1), .val (.int vp1), .val (.int vp2), .val (.ref b18), .val (.ref b27), .val (.ref b36), .val (.ref b40), .unset] [(.int z_)])) (show (0 : Int32) = (if vp1 = vp2 then (if vc0 = vd0 then (1 : Int32) else (0 : Int32)) else (0 : Int32)) from by rw [if_neg hc53])) k)
            obtain ⟨cq56, kq56, q56a, q56b, q56c⟩ := isOf hZ rfl Ee38
            obtain ⟨_, _, ⟨T56, L56, k56, n56⟩, -, X56, ⟨Lc56, hQ56, l56, y56, z56⟩, st56⟩ := X42.virtualBack hx (y := (⟨"com/example/vigilant_consumer/vigilantconsumer/TopicPartition", "equals", "(Ljava/lang/Object;)Z"⟩ : MethodName)) (z := (⟨"com/example/vigilant_consumer/vigilantconsumer/TopicPartition", "equals", "(Ljava/lang/Object;)Z"⟩ : MethodName)) hown (mvT hZ (hw _ (List.mem_of_getElem? (i := 59) rfl))) (mvT hZ (hw _ (List.mem_of_getElem? (i := 60) rfl))) (notFace_of_selects (args := #[]) (mvT hZ (hw _ (List.mem_of_getElem? (i := 62) rfl)))) (mvT hZ (hw _ (List.mem_of_getElem? (i := 62) rfl))) (mvT hZ (hw _ (List.mem_of_getElem? (i := 61) rfl))) (by decide) (backOf (W := 0) (own_teq11 l Z a0 hw [] b36 b40 b18 b27 vp1 vp2 b25 b34 kb25 kb34 cz ((vc0).toInt8.toInt32) ((vd0).toInt8.toInt32) T42.heap n0 Z43 Ee42 Ft38 Fp38 Ft42 Fp42 Ee25 Fc25 Fv25 VB25 Ee34 Fc34 Fv34 VB34 ne_b18_b27 (S0.ext O.2) hcz) hZ (hw _ (List.mem_of_getElem? (i := 63) rfl)) (hw _ (List.mem_of_getElem? (i := 33) rfl)) (by decide) (by decide)) q56a q56c (g := (mkF m 362 #[.val (.int x1), .val (.int x2), .val (.int x3), .val (.int x4), .val (.int x5), .val (.int (0 : Int32)), .val (.int (0 : Int32)), .val (.int vb7), .val (.int vb8), .val (.int vk), .val (.int vc0), .val (.int vc1), .val (.int vd0), .val (.int vd1), .val (.int vp1), .val (.int vp2), .val (.ref b18), .val (.ref b27), .val (.ref b36), .val (.ref b40), .val (.int (if vp1 = vp2 then (if vc0 = vd0 then (1 : Int32) else (0 : Int32)) else (0 : Int32)))] [(.ref b40), (.ref b36)])) rfl (by rw [hml]; rfl) (Steps.refl _) (argsL := [(.ref b40)]) (rest := []) (lenOf own_pd8 rfl) rfl (by show 2 * 0 + _ ≤ _; exact Nat.le_of_eq rfl) (hb hby at_362) (fun _ _ => ⟨rfl, rfl, (by decide : 12 + 0 ≤ _), (by decide : 64 + 0 ≤ _)⟩)
            dsimp only [Pt.U, Pt.locs, Pt.cells, Pt.slots] at X56 l56 y56 z56 st56 hQ56
            subst l56 y56 z56
            obtain ⟨rfl, N56q, e56⟩ := hQ56
            have N56 := Fr.app N42 N56q
            obtain ⟨cq57, kq57, q57a, q57b, q57c⟩ := isOf hZ e56 Ee42
            obtain ⟨_, _, ⟨T57, L57, k57, n57⟩, -, X57, ⟨Lc57, hQ57, l57, y57, z57⟩, st57⟩ := X56.virtualBack hx (y := (⟨"com/example/vigilant_consumer/vigilantconsumer/TopicPartition", "equals", "(Ljava/lang/Object;)Z"⟩ : MethodName)) (z := (⟨"com/example/vigilant_consumer/vigilantconsumer/TopicPartition", "equals", "(Ljava/lang/Object;)Z"⟩ : MethodName)) hown (mvT hZ (hw _ (List.mem_of_getElem? (i := 59) rfl))) (mvT hZ (hw _ (List.mem_of_getElem? (i := 60) rfl))) (notFace_of_selects (args := #[]) (mvT hZ (hw _ (List.mem_of_getElem? (i := 62) rfl)))) (mvT hZ (hw _ (List.mem_of_getElem? (i := 62) rfl))) (mvT hZ (hw _ (List.mem_of_getElem? (i := 61) rfl))) (by decide) (backOf (W := 0) (own_teq11 l Z a0 hw [] b40 b36 b27 b18 vp2 vp1 b34 b25 kb34 kb25 cz ((vd0).toInt8.toInt32) ((vc0).toInt8.toInt32) T42.heap n0 Z43 Ee38 Ft42 Fp42 Ft38 Fp38 Ee34 Fc34 Fv34 VB34 Ee25 Fc25 Fv25 VB25 (Ne.symm ne_b18_b27) (S0.ext O.2) hcz) hZ (hw _ (List.mem_of_getElem? (i := 63) rfl)) (hw _ (List.mem_of_getElem? (i := 33) rfl)) (by decide) (by decide)) q57a q57c (g := (mkF m 374 #[.val (.int x1), .val (.int x2), .val (.int x3), .val (.int x4), .val (.int x5), .val (.int (0 : Int32)), .val (.int (0 : Int32)), .val (.int vb7), .val (.int vb8), .val (.int vk), .val (.int vc0), .val (.int vc1), .val (.int vd0), .val (.int vd1), .val (.int vp1), .val (.int vp2), .val (.ref b18), .val (.ref b27), .val (.ref b36), .val (.ref b40), .val (.int (if vp1 = vp2 then (if vc0 = vd0 then (1 : Int32) else (0 : Int32)) else (0 : Int32)))] [(.ref b36), (.ref b40)])) rfl (by rw [hml]; rfl) (Steps.refl _) (argsL := [(.ref b36)]) (rest := []) (lenOf own_pd8 rfl) rfl (by show 2 * 0 + _ ≤ _; exact Nat.le_of_eq rfl) (hb hby at_374) (fun _ _ => ⟨rfl, e56, (by decide : 12 + 0 ≤ _), (by decide : 64 + 0 ≤ _)⟩)
            dsimp only [Pt.U, Pt.locs, Pt.cells, Pt.slots] at X57 l57 y57 z57 st57 hQ57
            subst l57 y57 z57
            obtain ⟨rfl, N57q, e57⟩ := hQ57
            have N57 := Fr.app N56 N57q
            obtain ⟨fs, hr, hrun, hended, hRW⟩ := X57.leaveW hS (by rw [e57]; exact hk) (v := some (.int (1 : Int32))) (fun h => by rw [Bd.returns] at h; cases h)
            refine ⟨_, _, pre55 _ ?_, hrun, hended, _, _, rfl, ?_, hRW.1, hRW.2.1, hRW.2.2.1, hRW.2.2.2.mono (by decide) (by decide)⟩
            · show Steps p.tables e below (T42.setTop (mkF m 356 #[.val (.int x1), .val (.int x2), .val (.int x3), .val (.int x4), .val (.int x5), .val (.int (0 : Int32)), .val (.int (0 : Int32)), .val (.int vb7), .val (.int vb8), .val (.int vk), .val (.int vc0), .val (.int vc1), .val (.int vd0), .val (.int vd1), .val (.int vp1), .val (.int vp2), .val (.ref b18), .val (.ref b27), .val (.ref b36), .val (.ref b40), .unset] [(.int (if vp1 = vp2 then (if vc0 = vd0 then (1 : Int32) else (0 : Int32)) else (0 : Int32)))])) _
              refine XS.istore X42.here hx rfl (hb hby at_356) rfl (l' := #[.val (.int x1), .val (.int x2), .val (.int x3), .val (.int x4), .val (.int x5), .val (.int (0 : Int32)), .val (.int (0 : Int32)), .val (.int vb7), .val (.int vb8), .val (.int vk), .val (.int vc0), .val (.int vc1), .val (.int vd0), .val (.int vd1), .val (.int vp1), .val (.int vp2), .val (.ref b18), .val (.ref b27), .val (.ref b36), .val (.ref b40), .val (.int (if vp1 = vp2 then (if vc0 = vd0 then (1 : Int32) else (0 : Int32)) else (0 : Int32)))]) rfl ?_
              show Steps p.tables e below (T42.setTop (mkF m 358 #[.val (.int x1), .val (.int x2), .val (.int x3), .val (.int x4), .val (.int x5), .val (.int (0 : Int32)), .val (.int (0 : Int32)), .val (.int vb7), .val (.int vb8), .val (.int vk), .val (.int vc0), .val (.int vc1), .val (.int vd0), .val (.int vd1), .val (.int vp1), .val (.int vp2), .val (.ref b18), .val (.ref b27), .val (.ref b36), .val (.ref b40), .val (.int (if vp1 = vp2 then (if vc0 = vd0 then (1 : Int32) else (0 : Int32)) else (0 : Int32)))] [])) _
              refine XS.aload X42.here hx rfl (hb hby at_358) rfl rfl ?_
              show Steps p.tables e below (T42.setTop (mkF m 360 #[.val (.int x1), .val (.int x2), .val (.int x3), .val (.int x4), .val (.int x5), .val (.int (0 : Int32)), .val (.int (0 : Int32)), .val (.int vb7), .val (.int vb8), .val (.int vk), .val (.int vc0), .val (.int vc1), .val (.int vd0), .val (.int vd1), .val (.int vp1), .val (.int vp2), .val (.ref b18), .val (.ref b27), .val (.ref b36), .val (.ref b40), .val (.int (if vp1 = vp2 then (if vc0 = vd0 then (1 : Int32) else (0 : Int32)) else (0 : Int32)))] [(.ref b36)])) _
              refine XS.aload X42.here hx rfl (hb hby at_360) rfl rfl ?_
              show Steps p.tables e below (T42.setTop (mkF m 362 #[.val (.int x1), .val (.int x2), .val (.int x3), .val (.int x4), .val (.int x5), .val (.int (0 : Int32)), .val (.int (0 : Int32)), .val (.int vb7), .val (.int vb8), .val (.int vk), .val (.int vc0), .val (.int vc1), .val (.int vd0), .val (.int vd1), .val (.int vp1), .val (.int vp2), .val (.ref b18), .val (.ref b27), .val (.ref b36), .val (.ref b40), .val (.int (if vp1 = vp2 then (if vc0 = vd0 then (1 : Int32) else (0 : Int32)) else (0 : Int32)))] [(.ref b40), (.ref b36)])) _
              refine st56.trans ?_
              show Steps p.tables e below (T56.setTop (mkF m 365 #[.val (.int x1), .val (.int x2), .val (.int x3), .val (.int x4), .val (.int x5), .val (.int (0 : Int32)), .val (.int (0 : Int32)), .val (.int vb7), .val (.int vb8), .val (.int vk), .val (.int vc0), .val (.int vc1), .val (.int vd0), .val (.int vd1), .val (.int vp1), .val (.int vp2), .val (.ref b18), .val (.ref b27), .val (.ref b36), .val (.ref b40), .val (.int (if vp1 = vp2 then (if vc0 = vd0 then (1 : Int32) else (0 : Int32)) else (0 : Int32)))] [(.int (if vp1 = vp2 ∧ ((vc0).toInt8.toInt32) = ((vd0).toInt8.toInt32) then (1 : Int32) else (0 : Int32)))])) _
              refine XS.iload X56.here hx rfl (hb hby at_365) rfl ?_
              show Steps p.tables e below (T56.setTop (mkF m 367 #[.val (.int x1), .val (.int x2), .val (.int x3), .val (.int x4), .val (.int x5), .val (.int (0 : Int32)), .val (.int (0 : Int32)), .val (.int vb7), .val (.int vb8), .val (.int vk), .val (.int vc0), .val (.int vc1), .val (.int vd0), .val (.int vd1), .val (.int vp1), .val (.int vp2), .val (.ref b18), .val (.ref b27), .val (.ref b36), .val (.ref b40), .val (.int (if vp1 = vp2 then (if vc0 = vd0 then (1 : Int32) else (0 : Int32)) else (0 : Int32)))] [(.int (if vp1 = vp2 then (if vc0 = vd0 then (1 : Int32) else (0 : Int32)) else (0 : Int32))), (.int (if vp1 = vp2 ∧ ((vc0).toInt8.toInt32) = ((vd0).toInt8.toInt32) then (1 : Int32) else (0 : Int32)))])) _
              refine XS.icmpNo X56.here hx rfl (hb hby at_367) rfl (teq (own_f1 Bvc0 Bvd0 : (if vp1 = vp2 ∧ ((vc0).toInt8.toInt32) = ((vd0).toInt8.toInt32) then (1 : Int32) else (0 : Int32)) = (if vp1 = vp2 then (if vc0 = vd0 then (1 : Int32) else (0 : Int32)) else (0 : Int32)))).2 ?_
              show Steps p.tables e below (T56.setTop (mkF m 370 #[.val (.int x1), .val (.int x2), .val (.int x3), .val (.int x4), .val (.int x5), .val (.int (0 : Int32)), .val (.int (0 : Int32)), .val (.int vb7), .val (.int vb8), .val (.int vk), .val (.int vc0), .val (.int vc1), .val (.int vd0), .val (.int vd1), .val (.int vp1), .val (.int vp2), .val (.ref b18), .val (.ref b27), .val (.ref b36), .val (.ref b40), .val (.int (if vp1 = vp2 then (if vc0 = vd0 then (1 : Int32) else (0 : Int32)) else (0 : Int32)))] [])) _
              refine XS.aload X56.here hx rfl (hb hby at_370) rfl rfl ?_
              show Steps p.tables e below (T56.setTop (mkF m 372 #[.val (.int x1), .val (.int x2), .val (.int x3), .val (.int x4), .val (.int x5), .val (.int (0 : Int32)), .val (.int (0 : Int32)), .val (.int vb7), .val (.int vb8), .val (.int vk), .val (.int vc0), .val (.int vc1), .val (.int vd0), .val (.int vd1), .val (.int vp1), .val (.int vp2), .val (.ref b18), .val (.ref b27), .val (.ref b36), .val (.ref b40), .val (.int (if vp1 = vp2 then (if vc0 = vd0 then (1 : Int32) else (0 : Int32)) else (0 : Int32)))] [(.ref b40)])) _
              refine XS.aload X56.here hx rfl (hb hby at_372) rfl rfl ?_
              show Steps p.tables e below (T56.setTop (mkF m 374 #[.val (.int x1), .val (.int x2), .val (.int x3), .val (.int x4), .val (.int x5), .val (.int (0 : Int32)), .val (.int (0 : Int32)), .val (.int vb7), .val (.int vb8), .val (.int vk), .val (.int vc0), .val (.int vc1), .val (.int vd0), .val (.int vd1), .val (.int vp1), .val (.int vp2), .val (.ref b18), .val (.ref b27), .val (.ref b36), .val (.ref b40), .val (.int (if vp1 = vp2 then (if vc0 = vd0 then (1 : Int32) else (0 : Int32)) else (0 : Int32)))] [(.ref b36), (.ref b40)])) _
              refine st57.trans ?_
              show Steps p.tables e below (T57.setTop (mkF m 377 #[.val (.int x1), .val (.int x2), .val (.int x3), .val (.int x4), .val (.int x5), .val (.int (0 : Int32)), .val (.int (0 : Int32)), .val (.int vb7), .val (.int vb8), .val (.int vk), .val (.int vc0), .val (.int vc1), .val (.int vd0), .val (.int vd1), .val (.int vp1), .val (.int vp2), .val (.ref b18), .val (.ref b27), .val (.ref b36), .val (.ref b40), .val (.int (if vp1 = vp2 then (if vc0 = vd0 then (1 : Int32) else (0 : Int32)) else (0 : Int32)))] [(.int (if vp2 = vp1 ∧ ((vd0).toInt8.toInt32) = ((vc0).toInt8.toInt32) then (1 : Int32) else (0 : Int32)))])) _
              refine XS.iload X57.here hx rfl (hb hby at_377) rfl ?_
              show Steps p.tables e below (T57.setTop (mkF m 379 #[.val (.int x1), .val (.int x2), .val (.int x3), .val (.int x4), .val (.int x5), .val (.int (0 : Int32)), .val (.int (0 : Int32)), .val (.int vb7), .val (.int vb8), .val (.int vk), .val (.int vc0), .val (.int vc1), .val (.int vd0), .val (.int vd1), .val (.int vp1), .val (.int vp2), .val (.ref b18), .val (.ref b27), .val (.ref b36), .val (.ref b40), .val (.int (if vp1 = vp2 then (if vc0 = vd0 then (1 : Int32) else (0 : Int32)) else (0 : Int32)))] [(.int (if vp1 = vp2 then (if vc0 = vd0 then (1 : Int32) else (0 : Int32)) else (0 : Int32))), (.int (if vp2 = vp1 ∧ ((vd0).toInt8.toInt32) = ((vc0).toInt8.toInt32) then (1 : Int32) else (0 : Int32)))])) _
              refine XS.icmpNo X57.here hx rfl (hb hby at_379) rfl (teq (own_g1 Bvc0 Bvd0 : (if vp2 = vp1 ∧ ((vd0).toInt8.toInt32) = ((vc0).toInt8.toInt32) then (1 : Int32) else (0 : Int32)) = (if vp1 = vp2 then (if vc0 = vd0 then (1 : Int32) else (0 : Int32)) else (0 : Int32)))).2 ?_
              show Steps p.tables e below (T57.setTop (mkF m 382 #[.val (.int x1), .val (.int x2), .val (.int x3), .val (.int x4), .val (.int x5), .val (.int (0 : Int32)), .val (.int (0 : Int32)), .val (.int vb7), .val (.int vb8), .val (.int vk), .val (.int vc0), .val (.int vc1), .val (.int vd0), .val (.int vd1), .val (.int vp1), .val (.int vp2), .val (.ref b18), .val (.ref b27), .val (.ref b36), .val (.ref b40), .val (.int (if vp1 = vp2 then (if vc0 = vd0 then (1 : Int32) else (0 : Int32)) else (0 : Int32)))] [])) _
              refine XS.iconst X57.here hx rfl (hb hby at_382) ?_
              show Steps p.tables e below (T57.setTop (mkF m 383 #[.val (.int x1), .val (.int x2), .val (.int x3), .val (.int x4), .val (.int x5), .val (.int (0 : Int32)), .val (.int (0 : Int32)), .val (.int vb7), .val (.int vb8), .val (.int vk), .val (.int vc0), .val (.int vc1), .val (.int vd0), .val (.int vd1), .val (.int vp1), .val (.int vp2), .val (.ref b18), .val (.ref b27), .val (.ref b36), .val (.ref b40), .val (.int (if vp1 = vp2 then (if vc0 = vd0 then (1 : Int32) else (0 : Int32)) else (0 : Int32)))] [(.int (1 : Int32))])) _
              refine XS.goto X57.here hx rfl (pc0 := 383) (pc' := 387) rfl (hb hby at_383) (by decide) (by decide) ?_
              show Steps p.tables e below (T57.setTop (mkF m 387 #[.val (.int x1), .val (.int x2), .val (.int x3), .val (.int x4), .val (.int x5), .val (.int (0 : Int32)), .val (.int (0 : Int32)), .val (.int vb7), .val (.int vb8), .val (.int vk), .val (.int vc0), .val (.int vc1), .val (.int vd0), .val (.int vd1), .val (.int vp1), .val (.int vp2), .val (.ref b18), .val (.ref b27), .val (.ref b36), .val (.ref b40), .val (.int (if vp1 = vp2 then (if vc0 = vd0 then (1 : Int32) else (0 : Int32)) else (0 : Int32)))] [(.int (1 : Int32))])) _
              exact retN X57 hx (t := .boolean) Bd.returns (by simp) (hb hby at_387) hr
            · show own_Q_own_law Z x1 x2 x3 x4 x5 cz h0 n0 _ T57.heap _
              rw [e57]
              exact ⟨rfl, N57⟩
    · skip
      have one_vb6 : vb6 = (1 : Int32) := by rcases (show vb6 = 0 ∨ vb6 = 1 from by rw [hvb6]; exact own_01) with q | q; exact absurd q hc17; exact q
      obtain ⟨T58, h58, X58, e58, E58, A58, D58, -, st58⟩ := newO X0 hx hZ hown (hw _ (List.mem_of_getElem? (i := 1) rfl)) (hw _ (List.mem_of_getElem? (i := 2) rfl)) (hw _ (List.mem_of_getElem? (i := 3) rfl)) e0 (g := (mkF m 173 #[.val (.int x1), .val (.int x2), .val (.int x3), .val (.int x4), .val (.int x5), .val (.int (0 : Int32)), .val (.int (1 : Int32)), .val (.int vb7), .val (.int vb8), .val (.int vk), .val (.int vc0), .val (.int vc1), .val (.int vd0), .val (.int vd1), .val (.int vp1), .val (.int vp2), .unset, .unset, .unset, .unset, .unset] [])) rfl (hb hby at_173) (by decide) (by decide)
      obtain ⟨b58, g58⟩ : ∃ z, z = h0.size := ⟨_, rfl⟩
      rw [← g58] at A58 D58 st58
      have g_b58 : n0 ≤ b58 := Nat.le_trans Z0 (Nat.le_of_eq g58.symm)
      have O := O.ext E58
      have hk := Nat.le_trans hk E58.1
      have Z59 : n0 ≤ h58.size := Nat.le_trans Z0 E58.1
      have F_coder_b58 : Fld Z h58 b58 "java/lang/String" "coder" "B" (.int (0 : Int32)) := D58 (Or.inr (hw _ (List.mem_of_getElem? (i := 28) rfl))) (ty := .byte) (by decide)
      have F_value_b58 : Fld Z h58 b58 "java/lang/String" "value" "[B" .null := D58 (Or.inr (hw _ (List.mem_of_getElem? (i := 30) rfl))) (ty := (.array .byte)) (by decide)
      have E_b58 := A58
      obtain ⟨T60, h60, k60, X60, e60, E60, A60, st60⟩ := newP X58 hx hZ (hw _ (List.mem_of_getElem? (i := 4) rfl)) e58 (g := (mkF m 178 #[.val (.int x1), .val (.int x2), .val (.int x3), .val (.int x4), .val (.int x5), .val (.int (0 : Int32)), .val (.int (1 : Int32)), .val (.int vb7), .val (.int vb8), .val (.int vk), .val (.int vc0), .val (.int vc1), .val (.int vd0), .val (.int vd1), .val (.int vp1), .val (.int vp2), .unset, .unset, .unset, .unset, .unset] [(.int (1 : Int32)), (.ref b58), (.ref b58)])) rfl (hb hby at_178) rfl (by decide) (cap := 1) (by decide) (by decide) (by decide) (by decide)
      obtain ⟨b60, g60⟩ : ∃ z, z = h58.size := ⟨_, rfl⟩
      rw [← g60] at A60 st60
      have g_b60 : n0 ≤ b60 := Nat.le_trans Z59 (Nat.le_of_eq g60.symm)
      have ne_b58_b60 : b58 ≠ b60 := Nat.ne_of_lt (Nat.lt_of_lt_of_le F_coder_b58.lt (Nat.le_of_eq g60.symm))
      have O := O.ext E60
      have F_coder_b58 := F_coder_b58.ext E60
      have F_value_b58 := F_value_b58.ext E60
      have E_b58 := E_b58.ext E60
      have hk := Nat.le_trans hk E60.1
      have Z61 : n0 ≤ h60.size := Nat.le_trans Z59 E60.1
      have V_b60 : Arv Z h60 b60 k60 .char (1 : Int32) [(.int (0 : Int32))] (.int (0 : Int32)) := (Arv.new A60 (by decide)).pad (pad_rep [] (.int (0 : Int32)) 1)
      obtain ⟨cl62, Ar62, q62, S62, M62, H62, G62⟩ := id V_b60
      have hin62 : ¬ ((0 : Int32) < 0 ∨ cl62.slots.size ≤ ((0 : Int32)).toNatClampNeg) := inb_of S62 ⟨by decide, by decide⟩
      obtain ⟨T63, h63, X63, e63, W63, st63⟩ := stC X60 hx hZ e60 Ar62 (j := (0 : Int32)) hin62 (g := (mkF m 184 #[.val (.int x1), .val (.int x2), .val (.int x3), .val (.int x4), .val (.int x5), .val (.int (0 : Int32)), .val (.int (1 : Int32)), .val (.int vb7), .val (.int vb8), .val (.int vk), .val (.int vc0), .val (.int vc1), .val (.int vd0), .val (.int vd1), .val (.int vp1), .val (.int vp2), .unset, .unset, .unset, .unset, .unset] [(.int vc0), (.int (0 : Int32)), (.ref b60), (.ref b60), (.ref b58), (.ref b58)])) rfl rfl (hb hby at_184)
      have O := O.wr W63 g_b60
      have F_coder_b58 := F_coder_b58.other W63 (Or.inl ne_b58_b60)
      have F_value_b58 := F_value_b58.other W63 (Or.inl ne_b58_b60)
      have E_b58 := E_b58.wr W63
      have hk := Nat.le_trans hk (Keep.of_wr W63).1
      have Z64 : n0 ≤ h63.size := Nat.le_trans Z61 (Keep.of_wr W63).1
      have V_b60 := Arv.set Ar62 q62 S62 M62 H62 G62 (fits_nar_char _) W63 0 rfl (Nat.le_of_ble_eq_true rfl)
      have V_b60 : Arv Z h63 b60 k60 .char (1 : Int32) [(.int vc0)] (.int (0 : Int32)) := by have q := V_b60; simp only [(own_Bc Bvc0), List.set] at q; exact q
      have N63 := Fr.snoc X63 N0 g_b60
      obtain ⟨_, _, ⟨T65, L65, k65, n65⟩, -, X65, ⟨Lc65, hQ65, l65, y65, z65⟩, st65⟩ := X63.specialBack hx (y := (⟨"java/lang/String", "<init>", "([C)V"⟩ : MethodName)) rfl hown (mvT hZ (hw _ (List.mem_of_getElem? (i := 5) rfl))) (mvT hZ (hw _ (List.mem_of_getElem? (i := 6) rfl))) (mvT hZ (hw _ (List.mem_of_getElem? (i := 7) rfl))) (by decide) (backOf (W := 1) (own_sic1 l Z a0 hw [] b58 b60 k60 cz (vc0) h63 n0 Z64 E_b58 F_coder_b58 F_value_b58 g_b58 V_b60 (own_B5 Bvc0) (S0.ext O.2) hcz) hZ (hw _ (List.mem_of_getElem? (i := 7) rfl)) (hw _ (List.mem_of_getElem? (i := 3) rfl)) (by decide) (by decide)) (g := (mkF m 185 #[.val (.int x1), .val (.int x2), .val (.int x3), .val (.int x4), .val (.int x5), .val (.int (0 : Int32)), .val (.int (1 : Int32)), .val (.int vb7), .val (.int vb8), .val (.int vk), .val (.int vc0), .val (.int vc1), .val (.int vd0), .val (.int vd1), .val (.int vp1), .val (.int vp2), .unset, .unset, .unset, .unset, .unset] [(.ref b60), (.ref b58), (.ref b58)])) rfl (by rw [hml]; rfl) (Steps.refl _) (a := b58) (argsL := [(.ref b60)]) (rest := [(.ref b58)]) (lenOf own_pd9 rfl) rfl (by show 2 * 0 + _ ≤ _; exact Nat.le_of_eq rfl) (hb hby at_185) (fun _ _ => ⟨rfl, e63, (by decide : 2 + 1 ≤ _), (by decide : 5 + 1 ≤ _)⟩)
      dsimp only [Pt.U, Pt.locs, Pt.cells, Pt.slots] at X65 l65 y65 z65 st65 hQ65
      subst l65 y65 z65
      obtain ⟨b65, kb65, rfl, N65q, K65, Ee65, Fc65, Fv65, VB65, sz65⟩ := hQ65
      have N65 := Fr.app N63 N65q
      have g_b65 : n0 ≤ b65 := Nat.le_trans Z64 sz65
      have ne_b58_b65 : b58 ≠ b65 := Nat.ne_of_lt (Nat.lt_of_lt_of_le F_coder_b58.lt sz65)
      have ne_b60_b65 : b60 ≠ b65 := Nat.ne_of_lt (Nat.lt_of_lt_of_le V_b60.lt sz65)
      have O := O.keep K65 (allS g_b58 all0)
      have E_b58 := E_b58.keep K65
      have V_b60 := V_b60.keep K65 (ninS (Ne.symm ne_b58_b60) nin0)
      have hk := Nat.le_trans hk K65.1
      have Z66 := Nat.le_trans Z64 K65.1
      obtain ⟨T67, h67, X67, e67, E67, A67, D67, -, st67⟩ := newO X65 hx hZ hown (hw _ (List.mem_of_getElem? (i := 1) rfl)) (hw _ (List.mem_of_getElem? (i := 2) rfl)) (hw _ (List.mem_of_getElem? (i := 3) rfl)) rfl (g := (mkF m 195 #[.val (.int x1), .val (.int x2), .val (.int x3), .val (.int x4), .val (.int x5), .val (.int (0 : Int32)), .val (.int (1 : Int32)), .val (.int vb7), .val (.int vb8), .val (.int vk), .val (.int vc0), .val (.int vc1), .val (.int vd0), .val (.int vd1), .val (.int vp1), .val (.int vp2), .val (.ref b58), .unset, .unset, .unset, .unset] [])) rfl (hb hby at_195) (by decide) (by decide)
      obtain ⟨b67, g67⟩ : ∃ z, z = T65.heap.size := ⟨_, rfl⟩
      rw [← g67] at A67 D67 st67
      have g_b67 : n0 ≤ b67 := Nat.le_trans Z66 (Nat.le_of_eq g67.symm)
      have ne_b58_b67 : b58 ≠ b67 := Nat.ne_of_lt (Nat.lt_of_lt_of_le Ee65.lt (Nat.le_of_eq g67.symm))
      have ne_b65_b67 : b65 ≠ b67 := Nat.ne_of_lt (Nat.lt_of_lt_of_le VB65.lt (Nat.le_of_eq g67.symm))
      have O := O.ext E67
      have Ee65 := Ee65.ext E67
      have Fc65 := Fc65.ext E67
      have Fv65 := Fv65.ext E67
      have VB65 := VB65.ext E67
      have hk := Nat.le_trans hk E67.1
      have Z68 : n0 ≤ h67.size := Nat.le_trans Z66 E67.1
      have F_coder_b67 : Fld Z h67 b67 "java/lang/String" "coder" "B" (.int (0 : Int32)) := D67 (Or.inr (hw _ (List.mem_of_getElem? (i := 28) rfl))) (ty := .byte) (by decide)
      have F_value_b67 : Fld Z h67 b67 "java/lang/String" "value" "[B" .null := D67 (Or.inr (hw _ (List.mem_of_getElem? (i := 30) rfl))) (ty := (.array .byte)) (by decide)
      have E_b67 := A67
      obtain ⟨T69, h69, k69, X69, e69, E69, A69, st69⟩ := newP X67 hx hZ (hw _ (List.mem_of_getElem? (i := 4) rfl)) e67 (g := (mkF m 200 #[.val (.int x1), .val (.int x2), .val (.int x3), .val (.int x4), .val (.int x5), .val (.int (0 : Int32)), .val (.int (1 : Int32)), .val (.int vb7), .val (.int vb8), .val (.int vk), .val (.int vc0), .val (.int vc1), .val (.int vd0), .val (.int vd1), .val (.int vp1), .val (.int vp2), .val (.ref b58), .unset, .unset, .unset, .unset] [(.int (2 : Int32)), (.ref b67), (.ref b67)])) rfl (hb hby at_200) rfl (by decide) (cap := 2) (by decide) (by decide) (by decide) (by decide)
      obtain ⟨b69, g69⟩ : ∃ z, z = h67.size := ⟨_, rfl⟩
      rw [← g69] at A69 st69
      have g_b69 : n0 ≤ b69 := Nat.le_trans Z68 (Nat.le_of_eq g69.symm)
      have ne_b58_b69 : b58 ≠ b69 := Nat.ne_of_lt (Nat.lt_of_lt_of_le Ee65.lt (Nat.le_of_eq g69.symm))
      have ne_b65_b69 : b65 ≠ b69 := Nat.ne_of_lt (Nat.lt_of_lt_of_le VB65.lt (Nat.le_of_eq g69.symm))
      have ne_b67_b69 : b67 ≠ b69 := Nat.ne_of_lt (Nat.lt_of_lt_of_le F_coder_b67.lt (Nat.le_of_eq g69.symm))
      have O := O.ext E69
      have Ee65 := Ee65.ext E69
      have Fc65 := Fc65.ext E69
      have Fv65 := Fv65.ext E69
      have VB65 := VB65.ext E69
      have F_coder_b67 := F_coder_b67.ext E69
      have F_value_b67 := F_value_b67.ext E69
      have E_b67 := E_b67.ext E69
      have hk := Nat.le_trans hk E69.1
      have Z70 : n0 ≤ h69.size := Nat.le_trans Z68 E69.1
      have V_b69 : Arv Z h69 b69 k69 .char (2 : Int32) [(.int (0 : Int32)), (.int (0 : Int32))] (.int (0 : Int32)) := (Arv.new A69 (by decide)).pad (pad_rep [] (.int (0 : Int32)) 2)
      obtain ⟨cl71, Ar71, q71, S71, M71, H71, G71⟩ := id V_b69
      have hin71 : ¬ ((0 : Int32) < 0 ∨ cl71.slots.size ≤ ((0 : Int32)).toNatClampNeg) := inb_of S71 ⟨by decide, by decide⟩
      obtain ⟨T72, h72, X72, e72, W72, st72⟩ := stC X69 hx hZ e69 Ar71 (j := (0 : Int32)) hin71 (g := (mkF m 206 #[.val (.int x1), .val (.int x2), .val (.int x3), .val (.int x4), .val (.int x5), .val (.int (0 : Int32)), .val (.int (1 : Int32)), .val (.int vb7), .val (.int vb8), .val (.int vk), .val (.int vc0), .val (.int vc1), .val (.int vd0), .val (.int vd1), .val (.int vp1), .val (.int vp2), .val (.ref b58), .unset, .unset, .unset, .unset] [(.int vd0), (.int (0 : Int32)), (.ref b69), (.ref b69), (.ref b67), (.ref b67)])) rfl rfl (hb hby at_206)
      have O := O.wr W72 g_b69
      have Ee65 := Ee65.wr W72
      have Fc65 := Fc65.other W72 (Or.inl ne_b58_b69)
      have Fv65 := Fv65.other W72 (Or.inl ne_b58_b69)
      have VB65 := VB65.other W72 ne_b65_b69
      have F_coder_b67 := F_coder_b67.other W72 (Or.inl ne_b67_b69)
      have F_value_b67 := F_value_b67.other W72 (Or.inl ne_b67_b69)
      have E_b67 := E_b67.wr W72
      have hk := Nat.le_trans hk (Keep.of_wr W72).1
      have Z73 : n0 ≤ h72.size := Nat.le_trans Z70 (Keep.of_wr W72).1
      have V_b69 := Arv.set Ar71 q71 S71 M71 H71 G71 (fits_nar_char _) W72 0 rfl (Nat.le_of_ble_eq_true rfl)
      have V_b69 : Arv Z h72 b69 k69 .char (2 : Int32) [(.int vd0), (.int (0 : Int32))] (.int (0 : Int32)) := by have q := V_b69; simp only [(own_Bc Bvd0), List.set] at q; exact q
      have N72 := Fr.snoc X72 N65 g_b69
      obtain ⟨cl74, Ar74, q74, S74, M74, H74, G74⟩ := id V_b69
      have hin74 : ¬ ((1 : Int32) < 0 ∨ cl74.slots.size ≤ ((1 : Int32)).toNatClampNeg) := inb_of S74 ⟨by decide, by decide⟩
      obtain ⟨T75, h75, X75, e75, W75, st75⟩ := stC X72 hx hZ e72 Ar74 (j := (1 : Int32)) hin74 (g := (mkF m 211 #[.val (.int x1), .val (.int x2), .val (.int x3), .val (.int x4), .val (.int x5), .val (.int (0 : Int32)), .val (.int (1 : Int32)), .val (.int vb7), .val (.int vb8), .val (.int vk), .val (.int vc0), .val (.int vc1), .val (.int vd0), .val (.int vd1), .val (.int vp1), .val (.int vp2), .val (.ref b58), .unset, .unset, .unset, .unset] [(.int vd1), (.int (1 : Int32)), (.ref b69), (.ref b69), (.ref b67), (.ref b67)])) rfl rfl (hb hby at_211)
      have O := O.wr W75 g_b69
      have Ee65 := Ee65.wr W75
      have Fc65 := Fc65.other W75 (Or.inl ne_b58_b69)
      have Fv65 := Fv65.other W75 (Or.inl ne_b58_b69)
      have VB65 := VB65.other W75 ne_b65_b69
      have F_coder_b67 := F_coder_b67.other W75 (Or.inl ne_b67_b69)
      have F_value_b67 := F_value_b67.other W75 (Or.inl ne_b67_b69)
      have E_b67 := E_b67.wr W75
      have hk := Nat.le_trans hk (Keep.of_wr W75).1
      have Z76 : n0 ≤ h75.size := Nat.le_trans Z73 (Keep.of_wr W75).1
      have V_b69 := Arv.set Ar74 q74 S74 M74 H74 G74 (fits_nar_char _) W75 1 rfl (Nat.le_of_ble_eq_true rfl)
      have V_b69 : Arv Z h75 b69 k69 .char (2 : Int32) [(.int vd0), (.int vd1)] (.int (0 : Int32)) := by have q := V_b69; simp only [(own_Bc Bvd1), List.set] at q; exact q
      have N75 := Fr.snoc X75 N72 g_b69
      obtain ⟨_, _, ⟨T77, L77, k77, n77⟩, -, X77, ⟨Lc77, hQ77, l77, y77, z77⟩, st77⟩ := X75.specialBack hx (y := (⟨"java/lang/String", "<init>", "([C)V"⟩ : MethodName)) rfl hown (mvT hZ (hw _ (List.mem_of_getElem? (i := 5) rfl))) (mvT hZ (hw _ (List.mem_of_getElem? (i := 6) rfl))) (mvT hZ (hw _ (List.mem_of_getElem? (i := 7) rfl))) (by decide) (backOf (W := 1) (own_sic2 l Z a0 hw [] b67 b69 k69 cz (vd0) (vd1) h75 n0 Z76 E_b67 F_coder_b67 F_value_b67 g_b67 V_b69 (own_B5 Bvd0) (own_B5 Bvd1) (S0.ext O.2) hcz) hZ (hw _ (List.mem_of_getElem? (i := 7) rfl)) (hw _ (List.mem_of_getElem? (i := 3) rfl)) (by decide) (by decide)) (g := (mkF m 212 #[.val (.int x1), .val (.int x2), .val (.int x3), .val (.int x4), .val (.int x5), .val (.int (0 : Int32)), .val (.int (1 : Int32)), .val (.int vb7), .val (.int vb8), .val (.int vk), .val (.int vc0), .val (.int vc1), .val (.int vd0), .val (.int vd1), .val (.int vp1), .val (.int vp2), .val (.ref b58), .unset, .unset, .unset, .unset] [(.ref b69), (.ref b67), (.ref b67)])) rfl (by rw [hml]; rfl) (Steps.refl _) (a := b67) (argsL := [(.ref b69)]) (rest := [(.ref b67)]) (lenOf own_pd9 rfl) rfl (by show 2 * 0 + _ ≤ _; exact Nat.le_of_eq rfl) (hb hby at_212) (fun _ _ => ⟨rfl, e75, (by decide : 5 + 1 ≤ _), (by decide : 12 + 2 ≤ _)⟩)
      dsimp only [Pt.U, Pt.locs, Pt.cells, Pt.slots] at X77 l77 y77 z77 st77 hQ77
      subst l77 y77 z77
      obtain ⟨b77, kb77, rfl, N77q, K77, Ee77, Fc77, Fv77, VB77, sz77⟩ := hQ77
      have N77 := Fr.app N75 N77q
      have g_b77 : n0 ≤ b77 := Nat.le_trans Z76 sz77
      have ne_b58_b77 : b58 ≠ b77 := Nat.ne_of_lt (Nat.lt_of_lt_of_le Ee65.lt sz77)
      have ne_b65_b77 : b65 ≠ b77 := Nat.ne_of_lt (Nat.lt_of_lt_of_le VB65.lt sz77)
      have ne_b67_b77 : b67 ≠ b77 := Nat.ne_of_lt (Nat.lt_of_lt_of_le F_coder_b67.lt sz77)
      have ne_b69_b77 : b69 ≠ b77 := Nat.ne_of_lt (Nat.lt_of_lt_of_le V_b69.lt sz77)
      have O := O.keep K77 (allS g_b67 all0)
      have Ee65 := Ee65.keep K77
      have Fc65 := Fc65.keep K77 (ninS ne_b58_b67 nin0)
      have Fv65 := Fv65.keep K77 (ninS ne_b58_b67 nin0)
      have VB65 := VB65.keep K77 (ninS ne_b65_b67 nin0)
      have E_b67 := E_b67.keep K77
      have V_b69 := V_b69.keep K77 (ninS (Ne.symm ne_b67_b69) nin0)
      have hk := Nat.le_trans hk K77.1
      have Z78 := Nat.le_trans Z76 K77.1
      obtain ⟨T79, h79, X79, e79, E79, A79, D79, -, st79⟩ := newO X77 hx hZ hown (hw _ (List.mem_of_getElem? (i := 31) rfl)) (hw _ (List.mem_of_getElem? (i := 32) rfl)) (hw _ (List.mem_of_getElem? (i := 33) rfl)) rfl (g := (mkF m 235 #[.val (.int x1), .val (.int x2), .val (.int x3), .val (.int x4), .val (.int x5), .val (.int (0 : Int32)), .val (.int (1 : Int32)), .val (.int vb7), .val (.int vb8), .val (.int vk), .val (.int vc0), .val (.int vc1), .val (.int vd0), .val (.int vd1), .val (.int vp1), .val (.int vp2), .val (.ref b58), .val (.ref b67), .unset, .unset, .unset] [])) rfl (hb hby at_235) (by decide) (by decide)
      obtain ⟨b79, g79⟩ : ∃ z, z = T77.heap.size := ⟨_, rfl⟩
      rw [← g79] at A79 D79 st79
      have g_b79 : n0 ≤ b79 := Nat.le_trans Z78 (Nat.le_of_eq g79.symm)
      have ne_b58_b79 : b58 ≠ b79 := Nat.ne_of_lt (Nat.lt_of_lt_of_le Ee65.lt (Nat.le_of_eq g79.symm))
      have ne_b65_b79 : b65 ≠ b79 := Nat.ne_of_lt (Nat.lt_of_lt_of_le VB65.lt (Nat.le_of_eq g79.symm))
      have ne_b67_b79 : b67 ≠ b79 := Nat.ne_of_lt (Nat.lt_of_lt_of_le Ee77.lt (Nat.le_of_eq g79.symm))
      have ne_b77_b79 : b77 ≠ b79 := Nat.ne_of_lt (Nat.lt_of_lt_of_le VB77.lt (Nat.le_of_eq g79.symm))
      have O := O.ext E79
      have Ee65 := Ee65.ext E79
      have Fc65 := Fc65.ext E79
      have Fv65 := Fv65.ext E79
      have VB65 := VB65.ext E79
      have Ee77 := Ee77.ext E79
      have Fc77 := Fc77.ext E79
      have Fv77 := Fv77.ext E79
      have VB77 := VB77.ext E79
      have hk := Nat.le_trans hk E79.1
      have Z80 : n0 ≤ h79.size := Nat.le_trans Z78 E79.1
      have F_topic_b79 : Fld Z h79 b79 "com/example/vigilant_consumer/vigilantconsumer/TopicPartition" "topic" "Ljava/lang/String;" .null := D79 (Or.inr (hw _ (List.mem_of_getElem? (i := 56) rfl))) (ty := (.object "java/lang/String")) (by decide)
      have F_partition_b79 : Fld Z h79 b79 "com/example/vigilant_consumer/vigilantconsumer/TopicPartition" "partition" "I" (.int (0 : Int32)) := D79 (Or.inr (hw _ (List.mem_of_getElem? (i := 58) rfl))) (ty := .int) (by decide)
      have E_b79 := A79
      obtain ⟨_, _, ⟨T81, L81, k81, n81⟩, -, X81, hS81, hg81, ⟨Lc81, hQ81, l81, y81, z81⟩, st81⟩ := X79.specialBackS hx (y := (⟨"com/example/vigilant_consumer/vigilantconsumer/TopicPartition", "<init>", "(Ljava/lang/String;I)V"⟩ : MethodName)) rfl hown (mvT hZ (hw _ (List.mem_of_getElem? (i := 34) rfl))) (mvT hZ (hw _ (List.mem_of_getElem? (i := 35) rfl))) (mvT hZ (hw _ (List.mem_of_getElem? (i := 36) rfl))) (by decide) (backOfS (W := 1) (own_init1 l Z a0 hw [] b79 b58 vp1 b65 kb65 ((vc0).toInt8.toInt32) h79 n0 Z80 E_b79 F_topic_b79 F_partition_b79 g_b79 Ee65 Fv65 VB65 Pvp1) hZ (hw _ (List.mem_of_getElem? (i := 36) rfl)) (hw _ (List.mem_of_getElem? (i := 33) rfl)) (by decide) (by decide)) (g := (mkF m 243 #[.val (.int x1), .val (.int x2), .val (.int x3), .val (.int x4), .val (.int x5), .val (.int (0 : Int32)), .val (.int (1 : Int32)), .val (.int vb7), .val (.int vb8), .val (.int vk), .val (.int vc0), .val (.int vc1), .val (.int vd0), .val (.int vd1), .val (.int vp1), .val (.int vp2), .val (.ref b58), .val (.ref b67), .unset, .unset, .unset] [(.int vp1), (.ref b58), (.ref b79), (.ref b79)])) rfl (by rw [hml]; rfl) (Steps.refl _) (a := b79) (argsL := [(.ref b58), (.int vp1)]) (rest := [(.ref b79)]) (lenOf own_pd10 rfl) rfl (by show 2 * 0 + _ ≤ _; exact Nat.le_of_eq rfl) (hb hby at_243) (fun _ _ => ⟨rfl, e79, (by decide : 7 + 2 ≤ _), (by decide : 16 + 24 ≤ _)⟩)
      dsimp only [Pt.U, Pt.locs, Pt.cells, Pt.slots] at X81 l81 y81 z81 st81 hQ81 hS81 hg81
      subst l81 y81 z81
      obtain ⟨X81, hS, hZ, hown⟩ := rebS hS (show _ ≤ T79.heap.size by rw [e79]; exact hk) X81 hS81 hg81 hZ hown
      obtain ⟨rfl, N81q, K81, Ee81, Ft81, Fp81⟩ := hQ81
      have N81 := Fr.app N77 N81q
      have O := O.keep K81 (allS g_b79 all0)
      have Ee65 := Ee65.keep K81
      have Fc65 := Fc65.keep K81 (ninS ne_b58_b79 nin0)
      have Fv65 := Fv65.keep K81 (ninS ne_b58_b79 nin0)
      have VB65 := VB65.keep K81 (ninS ne_b65_b79 nin0)
      have Ee77 := Ee77.keep K81
      have Fc77 := Fc77.keep K81 (ninS ne_b67_b79 nin0)
      have Fv77 := Fv77.keep K81 (ninS ne_b67_b79 nin0)
      have VB77 := VB77.keep K81 (ninS ne_b77_b79 nin0)
      have E_b79 := E_b79.keep K81
      have Z82 := Nat.le_trans Z80 K81.1
      have hk := Nat.le_refl T81.heap.size
      obtain ⟨T83, h83, X83, e83, E83, A83, D83, -, st83⟩ := newO X81 hx hZ hown (hw _ (List.mem_of_getElem? (i := 31) rfl)) (hw _ (List.mem_of_getElem? (i := 32) rfl)) (hw _ (List.mem_of_getElem? (i := 33) rfl)) rfl (g := (mkF m 248 #[.val (.int x1), .val (.int x2), .val (.int x3), .val (.int x4), .val (.int x5), .val (.int (0 : Int32)), .val (.int (1 : Int32)), .val (.int vb7), .val (.int vb8), .val (.int vk), .val (.int vc0), .val (.int vc1), .val (.int vd0), .val (.int vd1), .val (.int vp1), .val (.int vp2), .val (.ref b58), .val (.ref b67), .val (.ref b79), .unset, .unset] [])) rfl (hb hby at_248) (by decide) (by decide)
      obtain ⟨b83, g83⟩ : ∃ z, z = T81.heap.size := ⟨_, rfl⟩
      rw [← g83] at A83 D83 st83
      have g_b83 : n0 ≤ b83 := Nat.le_trans Z82 (Nat.le_of_eq g83.symm)
      have ne_b58_b83 : b58 ≠ b83 := Nat.ne_of_lt (Nat.lt_of_lt_of_le Ee65.lt (Nat.le_of_eq g83.symm))
      have ne_b65_b83 : b65 ≠ b83 := Nat.ne_of_lt (Nat.lt_of_lt_of_le VB65.lt (Nat.le_of_eq g83.symm))
      have ne_b67_b83 : b67 ≠ b83 := Nat.ne_of_lt (Nat.lt_of_lt_of_le Ee77.lt (Nat.le_of_eq g83.symm))
      have ne_b77_b83 : b77 ≠ b83 := Nat.ne_of_lt (Nat.lt_of_lt_of_le VB77.lt (Nat.le_of_eq g83.symm))
      have ne_b79_b83 : b79 ≠ b83 := Nat.ne_of_lt (Nat.lt_of_lt_of_le Ee81.lt (Nat.le_of_eq g83.symm))
      have O := O.ext E83
      have Ee65 := Ee65.ext E83
      have Fc65 := Fc65.ext E83
      have Fv65 := Fv65.ext E83
      have VB65 := VB65.ext E83
      have Ee77 := Ee77.ext E83
      have Fc77 := Fc77.ext E83
      have Fv77 := Fv77.ext E83
      have VB77 := VB77.ext E83
      have Ee81 := Ee81.ext E83
      have Ft81 := Ft81.ext E83
      have Fp81 := Fp81.ext E83
      have hk := Nat.le_trans hk E83.1
      have Z84 : n0 ≤ h83.size := Nat.le_trans Z82 E83.1
      have F_topic_b83 : Fld Z h83 b83 "com/example/vigilant_consumer/vigilantconsumer/TopicPartition" "topic" "Ljava/lang/String;" .null := D83 (Or.inr (hw _ (List.mem_of_getElem? (i := 56) rfl))) (ty := (.object "java/lang/String")) (by decide)
      have F_partition_b83 : Fld Z h83 b83 "com/example/vigilant_consumer/vigilantconsumer/TopicPartition" "partition" "I" (.int (0 : Int32)) := D83 (Or.inr (hw _ (List.mem_of_getElem? (i := 58) rfl))) (ty := .int) (by decide)
      have E_b83 := A83
      obtain ⟨_, _, ⟨T85, L85, k85, n85⟩, -, X85, hS85, hg85, ⟨Lc85, hQ85, l85, y85, z85⟩, st85⟩ := X83.specialBackS hx (y := (⟨"com/example/vigilant_consumer/vigilantconsumer/TopicPartition", "<init>", "(Ljava/lang/String;I)V"⟩ : MethodName)) rfl hown (mvT hZ (hw _ (List.mem_of_getElem? (i := 34) rfl))) (mvT hZ (hw _ (List.mem_of_getElem? (i := 35) rfl))) (mvT hZ (hw _ (List.mem_of_getElem? (i := 36) rfl))) (by decide) (backOfS (W := 1) (own_init2 l Z a0 hw [] b83 b67 vp2 b77 kb77 ((vd0).toInt8.toInt32) ((vd1).toInt8.toInt32) h83 n0 Z84 E_b83 F_topic_b83 F_partition_b83 g_b83 Ee77 Fv77 VB77 Pvp2) hZ (hw _ (List.mem_of_getElem? (i := 36) rfl)) (hw _ (List.mem_of_getElem? (i := 33) rfl)) (by decide) (by decide)) (g := (mkF m 256 #[.val (.int x1), .val (.int x2), .val (.int x3), .val (.int x4), .val (.int x5), .val (.int (0 : Int32)), .val (.int (1 : Int32)), .val (.int vb7), .val (.int vb8), .val (.int vk), .val (.int vc0), .val (.int vc1), .val (.int vd0), .val (.int vd1), .val (.int vp1), .val (.int vp2), .val (.ref b58), .val (.ref b67), .val (.ref b79), .unset, .unset] [(.int vp2), (.ref b67), (.ref b83), (.ref b83)])) rfl (by rw [hml]; rfl) (Steps.refl _) (a := b83) (argsL := [(.ref b67), (.int vp2)]) (rest := [(.ref b83)]) (lenOf own_pd10 rfl) rfl (by show 2 * 0 + _ ≤ _; exact Nat.le_of_eq rfl) (hb hby at_256) (fun _ _ => ⟨rfl, e83, (by decide : 10 + 2 ≤ _), (by decide : 42 + 24 ≤ _)⟩)
      dsimp only [Pt.U, Pt.locs, Pt.cells, Pt.slots] at X85 l85 y85 z85 st85 hQ85 hS85 hg85
      subst l85 y85 z85
      obtain ⟨X85, hS, hZ, hown⟩ := rebS hS (show _ ≤ T83.heap.size by rw [e83]; exact hk) X85 hS85 hg85 hZ hown
      obtain ⟨rfl, N85q, K85, Ee85, Ft85, Fp85⟩ := hQ85
      have N85 := Fr.app N81 N85q
      have O := O.keep K85 (allS g_b83 all0)
      have Ee65 := Ee65.keep K85
      have Fc65 := Fc65.keep K85 (ninS ne_b58_b83 nin0)
      have Fv65 := Fv65.keep K85 (ninS ne_b58_b83 nin0)
      have VB65 := VB65.keep K85 (ninS ne_b65_b83 nin0)
      have Ee77 := Ee77.keep K85
      have Fc77 := Fc77.keep K85 (ninS ne_b67_b83 nin0)
      have Fv77 := Fv77.keep K85 (ninS ne_b67_b83 nin0)
      have VB77 := VB77.keep K85 (ninS ne_b77_b83 nin0)
      have Ee81 := Ee81.keep K85
      have Ft81 := Ft81.keep K85 (ninS ne_b79_b83 nin0)
      have Fp81 := Fp81.keep K85 (ninS ne_b79_b83 nin0)
      have E_b83 := E_b83.keep K85
      have Z86 := Nat.le_trans Z84 K85.1
      have hk := Nat.le_refl T85.heap.size
      have pre87 : ∀ t, Steps p.tables e below (T85.setTop (mkF m 264 #[.val (.int x1), .val (.int x2), .val (.int x3), .val (.int x4), .val (.int x5), .val (.int (0 : Int32)), .val (.int (1 : Int32)), .val (.int vb7), .val (.int vb8), .val (.int vk), .val (.int vc0), .val (.int vc1), .val (.int vd0), .val (.int vd1), .val (.int vp1), .val (.int vp2), .val (.ref b58), .val (.ref b67), .val (.ref b79), .val (.ref b83), .unset] [(.int (1 : Int32)), (.int vk)])) t → Steps p.tables e below (s₁.setTop (entryFrame m #[(.int x1), (.int x2), (.int x3), (.int x4), (.int x5)] maxLocals)) t := fun t k => pre15 t (by
        show Steps p.tables e below (s₁.setTop (mkF m 145 #[.val (.int x1), .val (.int x2), .val (.int x3), .val (.int x4), .val (.int x5), .val (.int vb5), .val (.int vb6), .val (.int vb7), .val (.int vb8), .val (.int vk), .val (.int vc0), .val (.int vc1), .val (.int vd0), .val (.int vd1), .val (.int vp1), .val (.int vp2), .unset, .unset, .unset, .unset, .unset] [])) _
        rw [hc16]
        show Steps p.tables e below (s₁.setTop (mkF m 145 #[.val (.int x1), .val (.int x2), .val (.int x3), .val (.int x4), .val (.int x5), .val (.int (0 : Int32)), .val (.int vb6), .val (.int vb7), .val (.int vb8), .val (.int vk), .val (.int vc0), .val (.int vc1), .val (.int vd0), .val (.int vd1), .val (.int vp1), .val (.int vp2), .unset, .unset, .unset, .unset, .unset] [])) _
        rw [one_vb6]
        show Steps p.tables e below (s₁.setTop (mkF m 145 #[.val (.int x1), .val (.int x2), .val (.int x3), .val (.int x4), .val (.int x5), .val (.int (0 : Int32)), .val (.int (1 : Int32)), .val (.int vb7), .val (.int vb8), .val (.int vk), .val (.int vc0), .val (.int vc1), .val (.int vd0), .val (.int vd1), .val (.int vp1), .val (.int vp2), .unset, .unset, .unset, .unset, .unset] [])) _
        refine XS.iload X0.here hx rfl (hb hby at_145) rfl ?_
        show Steps p.tables e below (s₁.setTop (mkF m 147 #[.val (.int x1), .val (.int x2), .val (.int x3), .val (.int x4), .val (.int x5), .val (.int (0 : Int32)), .val (.int (1 : Int32)), .val (.int vb7), .val (.int vb8), .val (.int vk), .val (.int vc0), .val (.int vc1), .val (.int vd0), .val (.int vd1), .val (.int vp1), .val (.int vp2), .unset, .unset, .unset, .unset, .unset] [(.int (0 : Int32))])) _
        refine XS.ifYes X0.here hx rfl (pc0 := 147) (pc' := 173) rfl (hb hby at_147) rfl ((if0 _ _).trans (teq (by decide : (0 : Int32) = (0 : Int32))).1) (by decide) (by decide) ?_
        show Steps p.tables e below (s₁.setTop (mkF m 173 #[.val (.int x1), .val (.int x2), .val (.int x3), .val (.int x4), .val (.int x5), .val (.int (0 : Int32)), .val (.int (1 : Int32)), .val (.int vb7), .val (.int vb8), .val (.int vk), .val (.int vc0), .val (.int vc1), .val (.int vd0), .val (.int vd1), .val (.int vp1), .val (.int vp2), .unset, .unset, .unset, .unset, .unset] [])) _
        refine st58 _ ?_
        show Steps p.tables e below (T58.setTop (mkF m 176 #[.val (.int x1), .val (.int x2), .val (.int x3), .val (.int x4), .val (.int x5), .val (.int (0 : Int32)), .val (.int (1 : Int32)), .val (.int vb7), .val (.int vb8), .val (.int vk), .val (.int vc0), .val (.int vc1), .val (.int vd0), .val (.int vd1), .val (.int vp1), .val (.int vp2), .unset, .unset, .unset, .unset, .unset] [(.ref b58)])) _
        refine XS.dup X58.here hx rfl (hb hby at_176) rfl rfl ?_
        show Steps p.tables e below (T58.setTop (mkF m 177 #[.val (.int x1), .val (.int x2), .val (.int x3), .val (.int x4), .val (.int x5), .val (.int (0 : Int32)), .val (.int (1 : Int32)), .val (.int vb7), .val (.int vb8), .val (.int vk), .val (.int vc0), .val (.int vc1), .val (.int vd0), .val (.int vd1), .val (.int vp1), .val (.int vp2), .unset, .unset, .unset, .unset, .unset] [(.ref b58), (.ref b58)])) _
        refine XS.iconst X58.here hx rfl (hb hby at_177) ?_
        show Steps p.tables e below (T58.setTop (mkF m 178 #[.val (.int x1), .val (.int x2), .val (.int x3), .val (.int x4), .val (.int x5), .val (.int (0 : Int32)), .val (.int (1 : Int32)), .val (.int vb7), .val (.int vb8), .val (.int vk), .val (.int vc0), .val (.int vc1), .val (.int vd0), .val (.int vd1), .val (.int vp1), .val (.int vp2), .unset, .unset, .unset, .unset, .unset] [(.int (1 : Int32)), (.ref b58), (.ref b58)])) _
        refine st60 _ ?_
        show Steps p.tables e below (T60.setTop (mkF m 180 #[.val (.int x1), .val (.int x2), .val (.int x3), .val (.int x4), .val (.int x5), .val (.int (0 : Int32)), .val (.int (1 : Int32)), .val (.int vb7), .val (.int vb8), .val (.int vk), .val (.int vc0), .val (.int vc1), .val (.int vd0), .val (.int vd1), .val (.int vp1), .val (.int vp2), .unset, .unset, .unset, .unset, .unset] [(.ref b60), (.ref b58), (.ref b58)])) _
        refine XS.dup X60.here hx rfl (hb hby at_180) rfl rfl ?_
        show Steps p.tables e below (T60.setTop (mkF m 181 #[.val (.int x1), .val (.int x2), .val (.int x3), .val (.int x4), .val (.int x5), .val (.int (0 : Int32)), .val (.int (1 : Int32)), .val (.int vb7), .val (.int vb8), .val (.int vk), .val (.int vc0), .val (.int vc1), .val (.int vd0), .val (.int vd1), .val (.int vp1), .val (.int vp2), .unset, .unset, .unset, .unset, .unset] [(.ref b60), (.ref b60), (.ref b58), (.ref b58)])) _
        refine XS.iconst X60.here hx rfl (hb hby at_181) ?_
        show Steps p.tables e below (T60.setTop (mkF m 182 #[.val (.int x1), .val (.int x2), .val (.int x3), .val (.int x4), .val (.int x5), .val (.int (0 : Int32)), .val (.int (1 : Int32)), .val (.int vb7), .val (.int vb8), .val (.int vk), .val (.int vc0), .val (.int vc1), .val (.int vd0), .val (.int vd1), .val (.int vp1), .val (.int vp2), .unset, .unset, .unset, .unset, .unset] [(.int (0 : Int32)), (.ref b60), (.ref b60), (.ref b58), (.ref b58)])) _
        refine XS.iload X60.here hx rfl (hb hby at_182) rfl ?_
        show Steps p.tables e below (T60.setTop (mkF m 184 #[.val (.int x1), .val (.int x2), .val (.int x3), .val (.int x4), .val (.int x5), .val (.int (0 : Int32)), .val (.int (1 : Int32)), .val (.int vb7), .val (.int vb8), .val (.int vk), .val (.int vc0), .val (.int vc1), .val (.int vd0), .val (.int vd1), .val (.int vp1), .val (.int vp2), .unset, .unset, .unset, .unset, .unset] [(.int vc0), (.int (0 : Int32)), (.ref b60), (.ref b60), (.ref b58), (.ref b58)])) _
        refine st63 _ ?_
        show Steps p.tables e below (T63.setTop (mkF m 185 #[.val (.int x1), .val (.int x2), .val (.int x3), .val (.int x4), .val (.int x5), .val (.int (0 : Int32)), .val (.int (1 : Int32)), .val (.int vb7), .val (.int vb8), .val (.int vk), .val (.int vc0), .val (.int vc1), .val (.int vd0), .val (.int vd1), .val (.int vp1), .val (.int vp2), .unset, .unset, .unset, .unset, .unset] [(.ref b60), (.ref b58), (.ref b58)])) _
        refine st65.trans ?_
        show Steps p.tables e below (T65.setTop (mkF m 188 #[.val (.int x1), .val (.int x2), .val (.int x3), .val (.int x4), .val (.int x5), .val (.int (0 : Int32)), .val (.int (1 : Int32)), .val (.int vb7), .val (.int vb8), .val (.int vk), .val (.int vc0), .val (.int vc1), .val (.int vd0), .val (.int vd1), .val (.int vp1), .val (.int vp2), .unset, .unset, .unset, .unset, .unset] [(.ref b58)])) _
        refine XS.astore X65.here hx rfl (hb hby at_188) rfl rfl (l' := #[.val (.int x1), .val (.int x2), .val (.int x3), .val (.int x4), .val (.int x5), .val (.int (0 : Int32)), .val (.int (1 : Int32)), .val (.int vb7), .val (.int vb8), .val (.int vk), .val (.int vc0), .val (.int vc1), .val (.int vd0), .val (.int vd1), .val (.int vp1), .val (.int vp2), .val (.ref b58), .unset, .unset, .unset, .unset]) rfl ?_
        show Steps p.tables e below (T65.setTop (mkF m 190 #[.val (.int x1), .val (.int x2), .val (.int x3), .val (.int x4), .val (.int x5), .val (.int (0 : Int32)), .val (.int (1 : Int32)), .val (.int vb7), .val (.int vb8), .val (.int vk), .val (.int vc0), .val (.int vc1), .val (.int vd0), .val (.int vd1), .val (.int vp1), .val (.int vp2), .val (.ref b58), .unset, .unset, .unset, .unset] [])) _
        refine XS.iload X65.here hx rfl (hb hby at_190) rfl ?_
        show Steps p.tables e below (T65.setTop (mkF m 192 #[.val (.int x1), .val (.int x2), .val (.int x3), .val (.int x4), .val (.int x5), .val (.int (0 : Int32)), .val (.int (1 : Int32)), .val (.int vb7), .val (.int vb8), .val (.int vk), .val (.int vc0), .val (.int vc1), .val (.int vd0), .val (.int vd1), .val (.int vp1), .val (.int vp2), .val (.ref b58), .unset, .unset, .unset, .unset] [(.int (1 : Int32))])) _
        refine XS.ifNo X65.here hx rfl (hb hby at_192) rfl ((if0 _ _).trans (feq (by decide : ¬ ((1 : Int32) = (0 : Int32)))).1) ?_
        show Steps p.tables e below (T65.setTop (mkF m 195 #[.val (.int x1), .val (.int x2), .val (.int x3), .val (.int x4), .val (.int x5), .val (.int (0 : Int32)), .val (.int (1 : Int32)), .val (.int vb7), .val (.int vb8), .val (.int vk), .val (.int vc0), .val (.int vc1), .val (.int vd0), .val (.int vd1), .val (.int vp1), .val (.int vp2), .val (.ref b58), .unset, .unset, .unset, .unset] [])) _
        refine st67 _ ?_
        show Steps p.tables e below (T67.setTop (mkF m 198 #[.val (.int x1), .val (.int x2), .val (.int x3), .val (.int x4), .val (.int x5), .val (.int (0 : Int32)), .val (.int (1 : Int32)), .val (.int vb7), .val (.int vb8), .val (.int vk), .val (.int vc0), .val (.int vc1), .val (.int vd0), .val (.int vd1), .val (.int vp1), .val (.int vp2), .val (.ref b58), .unset, .unset, .unset, .unset] [(.ref b67)])) _
        refine XS.dup X67.here hx rfl (hb hby at_198) rfl rfl ?_
        show Steps p.tables e below (T67.setTop (mkF m 199 #[.val (.int x1), .val (.int x2), .val (.int x3), .val (.int x4), .val (.int x5), .val (.int (0 : Int32)), .val (.int (1 : Int32)), .val (.int vb7), .val (.int vb8), .val (.int vk), .val (.int vc0), .val (.int vc1), .val (.int vd0), .val (.int vd1), .val (.int vp1), .val (.int vp2), .val (.ref b58), .unset, .unset, .unset, .unset] [(.ref b67), (.ref b67)])) _
        refine XS.iconst X67.here hx rfl (hb hby at_199) ?_
        show Steps p.tables e below (T67.setTop (mkF m 200 #[.val (.int x1), .val (.int x2), .val (.int x3), .val (.int x4), .val (.int x5), .val (.int (0 : Int32)), .val (.int (1 : Int32)), .val (.int vb7), .val (.int vb8), .val (.int vk), .val (.int vc0), .val (.int vc1), .val (.int vd0), .val (.int vd1), .val (.int vp1), .val (.int vp2), .val (.ref b58), .unset, .unset, .unset, .unset] [(.int (2 : Int32)), (.ref b67), (.ref b67)])) _
        refine st69 _ ?_
        show Steps p.tables e below (T69.setTop (mkF m 202 #[.val (.int x1), .val (.int x2), .val (.int x3), .val (.int x4), .val (.int x5), .val (.int (0 : Int32)), .val (.int (1 : Int32)), .val (.int vb7), .val (.int vb8), .val (.int vk), .val (.int vc0), .val (.int vc1), .val (.int vd0), .val (.int vd1), .val (.int vp1), .val (.int vp2), .val (.ref b58), .unset, .unset, .unset, .unset] [(.ref b69), (.ref b67), (.ref b67)])) _
        refine XS.dup X69.here hx rfl (hb hby at_202) rfl rfl ?_
        show Steps p.tables e below (T69.setTop (mkF m 203 #[.val (.int x1), .val (.int x2), .val (.int x3), .val (.int x4), .val (.int x5), .val (.int (0 : Int32)), .val (.int (1 : Int32)), .val (.int vb7), .val (.int vb8), .val (.int vk), .val (.int vc0), .val (.int vc1), .val (.int vd0), .val (.int vd1), .val (.int vp1), .val (.int vp2), .val (.ref b58), .unset, .unset, .unset, .unset] [(.ref b69), (.ref b69), (.ref b67), (.ref b67)])) _
        refine XS.iconst X69.here hx rfl (hb hby at_203) ?_
        show Steps p.tables e below (T69.setTop (mkF m 204 #[.val (.int x1), .val (.int x2), .val (.int x3), .val (.int x4), .val (.int x5), .val (.int (0 : Int32)), .val (.int (1 : Int32)), .val (.int vb7), .val (.int vb8), .val (.int vk), .val (.int vc0), .val (.int vc1), .val (.int vd0), .val (.int vd1), .val (.int vp1), .val (.int vp2), .val (.ref b58), .unset, .unset, .unset, .unset] [(.int (0 : Int32)), (.ref b69), (.ref b69), (.ref b67), (.ref b67)])) _
        refine XS.iload X69.here hx rfl (hb hby at_204) rfl ?_
        show Steps p.tables e below (T69.setTop (mkF m 206 #[.val (.int x1), .val (.int x2), .val (.int x3), .val (.int x4), .val (.int x5), .val (.int (0 : Int32)), .val (.int (1 : Int32)), .val (.int vb7), .val (.int vb8), .val (.int vk), .val (.int vc0), .val (.int vc1), .val (.int vd0), .val (.int vd1), .val (.int vp1), .val (.int vp2), .val (.ref b58), .unset, .unset, .unset, .unset] [(.int vd0), (.int (0 : Int32)), (.ref b69), (.ref b69), (.ref b67), (.ref b67)])) _
        refine st72 _ ?_
        show Steps p.tables e below (T72.setTop (mkF m 207 #[.val (.int x1), .val (.int x2), .val (.int x3), .val (.int x4), .val (.int x5), .val (.int (0 : Int32)), .val (.int (1 : Int32)), .val (.int vb7), .val (.int vb8), .val (.int vk), .val (.int vc0), .val (.int vc1), .val (.int vd0), .val (.int vd1), .val (.int vp1), .val (.int vp2), .val (.ref b58), .unset, .unset, .unset, .unset] [(.ref b69), (.ref b67), (.ref b67)])) _
        refine XS.dup X72.here hx rfl (hb hby at_207) rfl rfl ?_
        show Steps p.tables e below (T72.setTop (mkF m 208 #[.val (.int x1), .val (.int x2), .val (.int x3), .val (.int x4), .val (.int x5), .val (.int (0 : Int32)), .val (.int (1 : Int32)), .val (.int vb7), .val (.int vb8), .val (.int vk), .val (.int vc0), .val (.int vc1), .val (.int vd0), .val (.int vd1), .val (.int vp1), .val (.int vp2), .val (.ref b58), .unset, .unset, .unset, .unset] [(.ref b69), (.ref b69), (.ref b67), (.ref b67)])) _
        refine XS.iconst X72.here hx rfl (hb hby at_208) ?_
        show Steps p.tables e below (T72.setTop (mkF m 209 #[.val (.int x1), .val (.int x2), .val (.int x3), .val (.int x4), .val (.int x5), .val (.int (0 : Int32)), .val (.int (1 : Int32)), .val (.int vb7), .val (.int vb8), .val (.int vk), .val (.int vc0), .val (.int vc1), .val (.int vd0), .val (.int vd1), .val (.int vp1), .val (.int vp2), .val (.ref b58), .unset, .unset, .unset, .unset] [(.int (1 : Int32)), (.ref b69), (.ref b69), (.ref b67), (.ref b67)])) _
        refine XS.iload X72.here hx rfl (hb hby at_209) rfl ?_
        show Steps p.tables e below (T72.setTop (mkF m 211 #[.val (.int x1), .val (.int x2), .val (.int x3), .val (.int x4), .val (.int x5), .val (.int (0 : Int32)), .val (.int (1 : Int32)), .val (.int vb7), .val (.int vb8), .val (.int vk), .val (.int vc0), .val (.int vc1), .val (.int vd0), .val (.int vd1), .val (.int vp1), .val (.int vp2), .val (.ref b58), .unset, .unset, .unset, .unset] [(.int vd1), (.int (1 : Int32)), (.ref b69), (.ref b69), (.ref b67), (.ref b67)])) _
        refine st75 _ ?_
        show Steps p.tables e below (T75.setTop (mkF m 212 #[.val (.int x1), .val (.int x2), .val (.int x3), .val (.int x4), .val (.int x5), .val (.int (0 : Int32)), .val (.int (1 : Int32)), .val (.int vb7), .val (.int vb8), .val (.int vk), .val (.int vc0), .val (.int vc1), .val (.int vd0), .val (.int vd1), .val (.int vp1), .val (.int vp2), .val (.ref b58), .unset, .unset, .unset, .unset] [(.ref b69), (.ref b67), (.ref b67)])) _
        refine st77.trans ?_
        show Steps p.tables e below (T77.setTop (mkF m 215 #[.val (.int x1), .val (.int x2), .val (.int x3), .val (.int x4), .val (.int x5), .val (.int (0 : Int32)), .val (.int (1 : Int32)), .val (.int vb7), .val (.int vb8), .val (.int vk), .val (.int vc0), .val (.int vc1), .val (.int vd0), .val (.int vd1), .val (.int vp1), .val (.int vp2), .val (.ref b58), .unset, .unset, .unset, .unset] [(.ref b67)])) _
        refine XS.goto X77.here hx rfl (pc0 := 215) (pc' := 233) rfl (hb hby at_215) (by decide) (by decide) ?_
        show Steps p.tables e below (T77.setTop (mkF m 233 #[.val (.int x1), .val (.int x2), .val (.int x3), .val (.int x4), .val (.int x5), .val (.int (0 : Int32)), .val (.int (1 : Int32)), .val (.int vb7), .val (.int vb8), .val (.int vk), .val (.int vc0), .val (.int vc1), .val (.int vd0), .val (.int vd1), .val (.int vp1), .val (.int vp2), .val (.ref b58), .unset, .unset, .unset, .unset] [(.ref b67)])) _
        refine XS.astore X77.here hx rfl (hb hby at_233) rfl rfl (l' := #[.val (.int x1), .val (.int x2), .val (.int x3), .val (.int x4), .val (.int x5), .val (.int (0 : Int32)), .val (.int (1 : Int32)), .val (.int vb7), .val (.int vb8), .val (.int vk), .val (.int vc0), .val (.int vc1), .val (.int vd0), .val (.int vd1), .val (.int vp1), .val (.int vp2), .val (.ref b58), .val (.ref b67), .unset, .unset, .unset]) rfl ?_
        show Steps p.tables e below (T77.setTop (mkF m 235 #[.val (.int x1), .val (.int x2), .val (.int x3), .val (.int x4), .val (.int x5), .val (.int (0 : Int32)), .val (.int (1 : Int32)), .val (.int vb7), .val (.int vb8), .val (.int vk), .val (.int vc0), .val (.int vc1), .val (.int vd0), .val (.int vd1), .val (.int vp1), .val (.int vp2), .val (.ref b58), .val (.ref b67), .unset, .unset, .unset] [])) _
        refine st79 _ ?_
        show Steps p.tables e below (T79.setTop (mkF m 238 #[.val (.int x1), .val (.int x2), .val (.int x3), .val (.int x4), .val (.int x5), .val (.int (0 : Int32)), .val (.int (1 : Int32)), .val (.int vb7), .val (.int vb8), .val (.int vk), .val (.int vc0), .val (.int vc1), .val (.int vd0), .val (.int vd1), .val (.int vp1), .val (.int vp2), .val (.ref b58), .val (.ref b67), .unset, .unset, .unset] [(.ref b79)])) _
        refine XS.dup X79.here hx rfl (hb hby at_238) rfl rfl ?_
        show Steps p.tables e below (T79.setTop (mkF m 239 #[.val (.int x1), .val (.int x2), .val (.int x3), .val (.int x4), .val (.int x5), .val (.int (0 : Int32)), .val (.int (1 : Int32)), .val (.int vb7), .val (.int vb8), .val (.int vk), .val (.int vc0), .val (.int vc1), .val (.int vd0), .val (.int vd1), .val (.int vp1), .val (.int vp2), .val (.ref b58), .val (.ref b67), .unset, .unset, .unset] [(.ref b79), (.ref b79)])) _
        refine XS.aload X79.here hx rfl (hb hby at_239) rfl rfl ?_
        show Steps p.tables e below (T79.setTop (mkF m 241 #[.val (.int x1), .val (.int x2), .val (.int x3), .val (.int x4), .val (.int x5), .val (.int (0 : Int32)), .val (.int (1 : Int32)), .val (.int vb7), .val (.int vb8), .val (.int vk), .val (.int vc0), .val (.int vc1), .val (.int vd0), .val (.int vd1), .val (.int vp1), .val (.int vp2), .val (.ref b58), .val (.ref b67), .unset, .unset, .unset] [(.ref b58), (.ref b79), (.ref b79)])) _
        refine XS.iload X79.here hx rfl (hb hby at_241) rfl ?_
        show Steps p.tables e below (T79.setTop (mkF m 243 #[.val (.int x1), .val (.int x2), .val (.int x3), .val (.int x4), .val (.int x5), .val (.int (0 : Int32)), .val (.int (1 : Int32)), .val (.int vb7), .val (.int vb8), .val (.int vk), .val (.int vc0), .val (.int vc1), .val (.int vd0), .val (.int vd1), .val (.int vp1), .val (.int vp2), .val (.ref b58), .val (.ref b67), .unset, .unset, .unset] [(.int vp1), (.ref b58), (.ref b79), (.ref b79)])) _
        refine st81.trans ?_
        show Steps p.tables e below (T81.setTop (mkF m 246 #[.val (.int x1), .val (.int x2), .val (.int x3), .val (.int x4), .val (.int x5), .val (.int (0 : Int32)), .val (.int (1 : Int32)), .val (.int vb7), .val (.int vb8), .val (.int vk), .val (.int vc0), .val (.int vc1), .val (.int vd0), .val (.int vd1), .val (.int vp1), .val (.int vp2), .val (.ref b58), .val (.ref b67), .unset, .unset, .unset] [(.ref b79)])) _
        refine XS.astore X81.here hx rfl (hb hby at_246) rfl rfl (l' := #[.val (.int x1), .val (.int x2), .val (.int x3), .val (.int x4), .val (.int x5), .val (.int (0 : Int32)), .val (.int (1 : Int32)), .val (.int vb7), .val (.int vb8), .val (.int vk), .val (.int vc0), .val (.int vc1), .val (.int vd0), .val (.int vd1), .val (.int vp1), .val (.int vp2), .val (.ref b58), .val (.ref b67), .val (.ref b79), .unset, .unset]) rfl ?_
        show Steps p.tables e below (T81.setTop (mkF m 248 #[.val (.int x1), .val (.int x2), .val (.int x3), .val (.int x4), .val (.int x5), .val (.int (0 : Int32)), .val (.int (1 : Int32)), .val (.int vb7), .val (.int vb8), .val (.int vk), .val (.int vc0), .val (.int vc1), .val (.int vd0), .val (.int vd1), .val (.int vp1), .val (.int vp2), .val (.ref b58), .val (.ref b67), .val (.ref b79), .unset, .unset] [])) _
        refine st83 _ ?_
        show Steps p.tables e below (T83.setTop (mkF m 251 #[.val (.int x1), .val (.int x2), .val (.int x3), .val (.int x4), .val (.int x5), .val (.int (0 : Int32)), .val (.int (1 : Int32)), .val (.int vb7), .val (.int vb8), .val (.int vk), .val (.int vc0), .val (.int vc1), .val (.int vd0), .val (.int vd1), .val (.int vp1), .val (.int vp2), .val (.ref b58), .val (.ref b67), .val (.ref b79), .unset, .unset] [(.ref b83)])) _
        refine XS.dup X83.here hx rfl (hb hby at_251) rfl rfl ?_
        show Steps p.tables e below (T83.setTop (mkF m 252 #[.val (.int x1), .val (.int x2), .val (.int x3), .val (.int x4), .val (.int x5), .val (.int (0 : Int32)), .val (.int (1 : Int32)), .val (.int vb7), .val (.int vb8), .val (.int vk), .val (.int vc0), .val (.int vc1), .val (.int vd0), .val (.int vd1), .val (.int vp1), .val (.int vp2), .val (.ref b58), .val (.ref b67), .val (.ref b79), .unset, .unset] [(.ref b83), (.ref b83)])) _
        refine XS.aload X83.here hx rfl (hb hby at_252) rfl rfl ?_
        show Steps p.tables e below (T83.setTop (mkF m 254 #[.val (.int x1), .val (.int x2), .val (.int x3), .val (.int x4), .val (.int x5), .val (.int (0 : Int32)), .val (.int (1 : Int32)), .val (.int vb7), .val (.int vb8), .val (.int vk), .val (.int vc0), .val (.int vc1), .val (.int vd0), .val (.int vd1), .val (.int vp1), .val (.int vp2), .val (.ref b58), .val (.ref b67), .val (.ref b79), .unset, .unset] [(.ref b67), (.ref b83), (.ref b83)])) _
        refine XS.iload X83.here hx rfl (hb hby at_254) rfl ?_
        show Steps p.tables e below (T83.setTop (mkF m 256 #[.val (.int x1), .val (.int x2), .val (.int x3), .val (.int x4), .val (.int x5), .val (.int (0 : Int32)), .val (.int (1 : Int32)), .val (.int vb7), .val (.int vb8), .val (.int vk), .val (.int vc0), .val (.int vc1), .val (.int vd0), .val (.int vd1), .val (.int vp1), .val (.int vp2), .val (.ref b58), .val (.ref b67), .val (.ref b79), .unset, .unset] [(.int vp2), (.ref b67), (.ref b83), (.ref b83)])) _
        refine st85.trans ?_
        show Steps p.tables e below (T85.setTop (mkF m 259 #[.val (.int x1), .val (.int x2), .val (.int x3), .val (.int x4), .val (.int x5), .val (.int (0 : Int32)), .val (.int (1 : Int32)), .val (.int vb7), .val (.int vb8), .val (.int vk), .val (.int vc0), .val (.int vc1), .val (.int vd0), .val (.int vd1), .val (.int vp1), .val (.int vp2), .val (.ref b58), .val (.ref b67), .val (.ref b79), .unset, .unset] [(.ref b83)])) _
        refine XS.astore X85.here hx rfl (hb hby at_259) rfl rfl (l' := #[.val (.int x1), .val (.int x2), .val (.int x3), .val (.int x4), .val (.int x5), .val (.int (0 : Int32)), .val (.int (1 : Int32)), .val (.int vb7), .val (.int vb8), .val (.int vk), .val (.int vc0), .val (.int vc1), .val (.int vd0), .val (.int vd1), .val (.int vp1), .val (.int vp2), .val (.ref b58), .val (.ref b67), .val (.ref b79), .val (.ref b83), .unset]) rfl ?_
        show Steps p.tables e below (T85.setTop (mkF m 261 #[.val (.int x1), .val (.int x2), .val (.int x3), .val (.int x4), .val (.int x5), .val (.int (0 : Int32)), .val (.int (1 : Int32)), .val (.int vb7), .val (.int vb8), .val (.int vk), .val (.int vc0), .val (.int vc1), .val (.int vd0), .val (.int vd1), .val (.int vp1), .val (.int vp2), .val (.ref b58), .val (.ref b67), .val (.ref b79), .val (.ref b83), .unset] [])) _
        refine XS.iload X85.here hx rfl (hb hby at_261) rfl ?_
        show Steps p.tables e below (T85.setTop (mkF m 263 #[.val (.int x1), .val (.int x2), .val (.int x3), .val (.int x4), .val (.int x5), .val (.int (0 : Int32)), .val (.int (1 : Int32)), .val (.int vb7), .val (.int vb8), .val (.int vk), .val (.int vc0), .val (.int vc1), .val (.int vd0), .val (.int vd1), .val (.int vp1), .val (.int vp2), .val (.ref b58), .val (.ref b67), .val (.ref b79), .val (.ref b83), .unset] [(.int vk)])) _
        refine XS.iconst X85.here hx rfl (hb hby at_263) ?_
        show Steps p.tables e below (T85.setTop (mkF m 264 #[.val (.int x1), .val (.int x2), .val (.int x3), .val (.int x4), .val (.int x5), .val (.int (0 : Int32)), .val (.int (1 : Int32)), .val (.int vb7), .val (.int vb8), .val (.int vk), .val (.int vc0), .val (.int vc1), .val (.int vd0), .val (.int vd1), .val (.int vp1), .val (.int vp2), .val (.ref b58), .val (.ref b67), .val (.ref b79), .val (.ref b83), .unset] [(.int (1 : Int32)), (.int vk)])) _
        exact k)
      by_cases hc88 : vk = (1 : Int32)
      · skip
        obtain ⟨cq89, kq89, q89a, q89b, q89c⟩ := isOf hZ rfl Ee81
        obtain ⟨_, _, ⟨T89, L89, k89, n89⟩, -, X89, ⟨Lc89, hQ89, l89, y89, z89⟩, st89⟩ := X85.virtualBack hx (y := (⟨"com/example/vigilant_consumer/vigilantconsumer/TopicPartition", "equals", "(Ljava/lang/Object;)Z"⟩ : MethodName)) (z := (⟨"com/example/vigilant_consumer/vigilantconsumer/TopicPartition", "equals", "(Ljava/lang/Object;)Z"⟩ : MethodName)) hown (mvT hZ (hw _ (List.mem_of_getElem? (i := 59) rfl))) (mvT hZ (hw _ (List.mem_of_getElem? (i := 60) rfl))) (notFace_of_selects (args := #[]) (mvT hZ (hw _ (List.mem_of_getElem? (i := 62) rfl)))) (mvT hZ (hw _ (List.mem_of_getElem? (i := 62) rfl))) (mvT hZ (hw _ (List.mem_of_getElem? (i := 61) rfl))) (by decide) (backOf (W := 0) (own_teqN l Z a0 hw [] b79  T85.heap n0 Z86 ) hZ (hw _ (List.mem_of_getElem? (i := 63) rfl)) (hw _ (List.mem_of_getElem? (i := 33) rfl)) (by decide) (by decide)) q89a q89c (g := (mkF m 270 #[.val (.int x1), .val (.int x2), .val (.int x3), .val (.int x4), .val (.int x5), .val (.int (0 : Int32)), .val (.int (1 : Int32)), .val (.int vb7), .val (.int vb8), .val (.int vk), .val (.int vc0), .val (.int vc1), .val (.int vd0), .val (.int vd1), .val (.int vp1), .val (.int vp2), .val (.ref b58), .val (.ref b67), .val (.ref b79), .val (.ref b83), .unset] [.null, (.ref b79)])) rfl (by rw [hml]; rfl) (Steps.refl _) (argsL := [.null]) (rest := []) (lenOf own_pd8 rfl) rfl (by show 2 * 0 + _ ≤ _; exact Nat.le_of_eq rfl) (hb hby at_270) (fun _ _ => ⟨rfl, rfl, (by decide : 12 + 0 ≤ _), (by decide : 66 + 0 ≤ _)⟩)
        dsimp only [Pt.U, Pt.locs, Pt.cells, Pt.slots] at X89 l89 y89 z89 st89 hQ89
        subst l89 y89 z89
        obtain ⟨rfl, N89q, e89⟩ := hQ89
        have N89 := Fr.app N85 N89q
        obtain ⟨fs, hr, hrun, hended, hRW⟩ := X89.leaveW hS (by rw [e89]; exact hk) (v := some (.int (1 : Int32))) (fun h => by rw [Bd.returns] at h; cases h)
        refine ⟨_, _, pre87 _ ?_, hrun, hended, _, _, rfl, ?_, hRW.1, hRW.2.1, hRW.2.2.1, hRW.2.2.2.mono (by decide) (by decide)⟩
        · refine XS.icmpNo X85.here hx rfl (hb hby at_264) rfl (teq hc88).2 ?_
          show Steps p.tables e below (T85.setTop (mkF m 267 #[.val (.int x1), .val (.int x2), .val (.int x3), .val (.int x4), .val (.int x5), .val (.int (0 : Int32)), .val (.int (1 : Int32)), .val (.int vb7), .val (.int vb8), .val (.int vk), .val (.int vc0), .val (.int vc1), .val (.int vd0), .val (.int vd1), .val (.int vp1), .val (.int vp2), .val (.ref b58), .val (.ref b67), .val (.ref b79), .val (.ref b83), .unset] [])) _
          refine XS.aload X85.here hx rfl (hb hby at_267) rfl rfl ?_
          show Steps p.tables e below (T85.setTop (mkF m 269 #[.val (.int x1), .val (.int x2), .val (.int x3), .val (.int x4), .val (.int x5), .val (.int (0 : Int32)), .val (.int (1 : Int32)), .val (.int vb7), .val (.int vb8), .val (.int vk), .val (.int vc0), .val (.int vc1), .val (.int vd0), .val (.int vd1), .val (.int vp1), .val (.int vp2), .val (.ref b58), .val (.ref b67), .val (.ref b79), .val (.ref b83), .unset] [(.ref b79)])) _
          refine XS.aconstNull X85.here hx rfl (hb hby at_269) ?_
          show Steps p.tables e below (T85.setTop (mkF m 270 #[.val (.int x1), .val (.int x2), .val (.int x3), .val (.int x4), .val (.int x5), .val (.int (0 : Int32)), .val (.int (1 : Int32)), .val (.int vb7), .val (.int vb8), .val (.int vk), .val (.int vc0), .val (.int vc1), .val (.int vd0), .val (.int vd1), .val (.int vp1), .val (.int vp2), .val (.ref b58), .val (.ref b67), .val (.ref b79), .val (.ref b83), .unset] [.null, (.ref b79)])) _
          refine st89.trans ?_
          show Steps p.tables e below (T89.setTop (mkF m 273 #[.val (.int x1), .val (.int x2), .val (.int x3), .val (.int x4), .val (.int x5), .val (.int (0 : Int32)), .val (.int (1 : Int32)), .val (.int vb7), .val (.int vb8), .val (.int vk), .val (.int vc0), .val (.int vc1), .val (.int vd0), .val (.int vd1), .val (.int vp1), .val (.int vp2), .val (.ref b58), .val (.ref b67), .val (.ref b79), .val (.ref b83), .unset] [(.int (0 : Int32))])) _
          refine XS.ifNo X89.here hx rfl (hb hby at_273) rfl ((if0 _ _).trans (teq (by decide : (0 : Int32) = (0 : Int32))).2) ?_
          show Steps p.tables e below (T89.setTop (mkF m 276 #[.val (.int x1), .val (.int x2), .val (.int x3), .val (.int x4), .val (.int x5), .val (.int (0 : Int32)), .val (.int (1 : Int32)), .val (.int vb7), .val (.int vb8), .val (.int vk), .val (.int vc0), .val (.int vc1), .val (.int vd0), .val (.int vd1), .val (.int vp1), .val (.int vp2), .val (.ref b58), .val (.ref b67), .val (.ref b79), .val (.ref b83), .unset] [])) _
          refine XS.iconst X89.here hx rfl (hb hby at_276) ?_
          show Steps p.tables e below (T89.setTop (mkF m 277 #[.val (.int x1), .val (.int x2), .val (.int x3), .val (.int x4), .val (.int x5), .val (.int (0 : Int32)), .val (.int (1 : Int32)), .val (.int vb7), .val (.int vb8), .val (.int vk), .val (.int vc0), .val (.int vc1), .val (.int vd0), .val (.int vd1), .val (.int vp1), .val (.int vp2), .val (.ref b58), .val (.ref b67), .val (.ref b79), .val (.ref b83), .unset] [(.int (1 : Int32))])) _
          refine XS.goto X89.here hx rfl (pc0 := 277) (pc' := 281) rfl (hb hby at_277) (by decide) (by decide) ?_
          show Steps p.tables e below (T89.setTop (mkF m 281 #[.val (.int x1), .val (.int x2), .val (.int x3), .val (.int x4), .val (.int x5), .val (.int (0 : Int32)), .val (.int (1 : Int32)), .val (.int vb7), .val (.int vb8), .val (.int vk), .val (.int vc0), .val (.int vc1), .val (.int vd0), .val (.int vd1), .val (.int vp1), .val (.int vp2), .val (.ref b58), .val (.ref b67), .val (.ref b79), .val (.ref b83), .unset] [(.int (1 : Int32))])) _
          exact retN X89 hx (t := .boolean) Bd.returns (by simp) (hb hby at_281) hr
        · show own_Q_own_law Z x1 x2 x3 x4 x5 cz h0 n0 _ T89.heap _
          rw [e89]
          exact ⟨rfl, N89⟩
      · skip
        have pre90 : ∀ t, Steps p.tables e below (T85.setTop (mkF m 285 #[.val (.int x1), .val (.int x2), .val (.int x3), .val (.int x4), .val (.int x5), .val (.int (0 : Int32)), .val (.int (1 : Int32)), .val (.int vb7), .val (.int vb8), .val (.int vk), .val (.int vc0), .val (.int vc1), .val (.int vd0), .val (.int vd1), .val (.int vp1), .val (.int vp2), .val (.ref b58), .val (.ref b67), .val (.ref b79), .val (.ref b83), .unset] [(.int (2 : Int32)), (.int vk)])) t → Steps p.tables e below (s₁.setTop (entryFrame m #[(.int x1), (.int x2), (.int x3), (.int x4), (.int x5)] maxLocals)) t := fun t k => pre87 t (by
          refine XS.icmpYes X85.here hx rfl (pc0 := 264) (pc' := 282) rfl (hb hby at_264) rfl (feq hc88).2 (by decide) (by decide) ?_
          show Steps p.tables e below (T85.setTop (mkF m 282 #[.val (.int x1), .val (.int x2), .val (.int x3), .val (.int x4), .val (.int x5), .val (.int (0 : Int32)), .val (.int (1 : Int32)), .val (.int vb7), .val (.int vb8), .val (.int vk), .val (.int vc0), .val (.int vc1), .val (.int vd0), .val (.int vd1), .val (.int vp1), .val (.int vp2), .val (.ref b58), .val (.ref b67), .val (.ref b79), .val (.ref b83), .unset] [])) _
          refine XS.iload X85.here hx rfl (hb hby at_282) rfl ?_
          show Steps p.tables e below (T85.setTop (mkF m 284 #[.val (.int x1), .val (.int x2), .val (.int x3), .val (.int x4), .val (.int x5), .val (.int (0 : Int32)), .val (.int (1 : Int32)), .val (.int vb7), .val (.int vb8), .val (.int vk), .val (.int vc0), .val (.int vc1), .val (.int vd0), .val (.int vd1), .val (.int vp1), .val (.int vp2), .val (.ref b58), .val (.ref b67), .val (.ref b79), .val (.ref b83), .unset] [(.int vk)])) _
          refine XS.iconst X85.here hx rfl (hb hby at_284) ?_
          show Steps p.tables e below (T85.setTop (mkF m 285 #[.val (.int x1), .val (.int x2), .val (.int x3), .val (.int x4), .val (.int x5), .val (.int (0 : Int32)), .val (.int (1 : Int32)), .val (.int vb7), .val (.int vb8), .val (.int vk), .val (.int vc0), .val (.int vc1), .val (.int vd0), .val (.int vd1), .val (.int vp1), .val (.int vp2), .val (.ref b58), .val (.ref b67), .val (.ref b79), .val (.ref b83), .unset] [(.int (2 : Int32)), (.int vk)])) _
          exact k)
        by_cases hc91 : vk = (2 : Int32)
        · skip
          obtain ⟨cq92, kq92, q92a, q92b, q92c⟩ := isOf hZ rfl Ee81
          obtain ⟨_, _, ⟨T92, L92, k92, n92⟩, -, X92, ⟨Lc92, hQ92, l92, y92, z92⟩, st92⟩ := X85.virtualBack hx (y := (⟨"com/example/vigilant_consumer/vigilantconsumer/TopicPartition", "equals", "(Ljava/lang/Object;)Z"⟩ : MethodName)) (z := (⟨"com/example/vigilant_consumer/vigilantconsumer/TopicPartition", "equals", "(Ljava/lang/Object;)Z"⟩ : MethodName)) hown (mvT hZ (hw _ (List.mem_of_getElem? (i := 59) rfl))) (mvT hZ (hw _ (List.mem_of_getElem? (i := 60) rfl))) (notFace_of_selects (args := #[]) (mvT hZ (hw _ (List.mem_of_getElem? (i := 62) rfl)))) (mvT hZ (hw _ (List.mem_of_getElem? (i := 62) rfl))) (mvT hZ (hw _ (List.mem_of_getElem? (i := 61) rfl))) (by decide) (backOf (W := 0) (own_teqO l Z a0 hw [] b79 b58  T85.heap n0 Z86 Ee65) hZ (hw _ (List.mem_of_getElem? (i := 63) rfl)) (hw _ (List.mem_of_getElem? (i := 33) rfl)) (by decide) (by decide)) q92a q92c (g := (mkF m 292 #[.val (.int x1), .val (.int x2), .val (.int x3), .val (.int x4), .val (.int x5), .val (.int (0 : Int32)), .val (.int (1 : Int32)), .val (.int vb7), .val (.int vb8), .val (.int vk), .val (.int vc0), .val (.int vc1), .val (.int vd0), .val (.int vd1), .val (.int vp1), .val (.int vp2), .val (.ref b58), .val (.ref b67), .val (.ref b79), .val (.ref b83), .unset] [(.ref b58), (.ref b79)])) rfl (by rw [hml]; rfl) (Steps.refl _) (argsL := [(.ref b58)]) (rest := []) (lenOf own_pd8 rfl) rfl (by show 2 * 0 + _ ≤ _; exact Nat.le_of_eq rfl) (hb hby at_292) (fun _ _ => ⟨rfl, rfl, (by decide : 12 + 0 ≤ _), (by decide : 66 + 0 ≤ _)⟩)
          dsimp only [Pt.U, Pt.locs, Pt.cells, Pt.slots] at X92 l92 y92 z92 st92 hQ92
          subst l92 y92 z92
          obtain ⟨rfl, N92q, e92⟩ := hQ92
          have N92 := Fr.app N85 N92q
          obtain ⟨fs, hr, hrun, hended, hRW⟩ := X92.leaveW hS (by rw [e92]; exact hk) (v := some (.int (1 : Int32))) (fun h => by rw [Bd.returns] at h; cases h)
          refine ⟨_, _, pre90 _ ?_, hrun, hended, _, _, rfl, ?_, hRW.1, hRW.2.1, hRW.2.2.1, hRW.2.2.2.mono (by decide) (by decide)⟩
          · refine XS.icmpNo X85.here hx rfl (hb hby at_285) rfl (teq hc91).2 ?_
            show Steps p.tables e below (T85.setTop (mkF m 288 #[.val (.int x1), .val (.int x2), .val (.int x3), .val (.int x4), .val (.int x5), .val (.int (0 : Int32)), .val (.int (1 : Int32)), .val (.int vb7), .val (.int vb8), .val (.int vk), .val (.int vc0), .val (.int vc1), .val (.int vd0), .val (.int vd1), .val (.int vp1), .val (.int vp2), .val (.ref b58), .val (.ref b67), .val (.ref b79), .val (.ref b83), .unset] [])) _
            refine XS.aload X85.here hx rfl (hb hby at_288) rfl rfl ?_
            show Steps p.tables e below (T85.setTop (mkF m 290 #[.val (.int x1), .val (.int x2), .val (.int x3), .val (.int x4), .val (.int x5), .val (.int (0 : Int32)), .val (.int (1 : Int32)), .val (.int vb7), .val (.int vb8), .val (.int vk), .val (.int vc0), .val (.int vc1), .val (.int vd0), .val (.int vd1), .val (.int vp1), .val (.int vp2), .val (.ref b58), .val (.ref b67), .val (.ref b79), .val (.ref b83), .unset] [(.ref b79)])) _
            refine XS.aload X85.here hx rfl (hb hby at_290) rfl rfl ?_
            show Steps p.tables e below (T85.setTop (mkF m 292 #[.val (.int x1), .val (.int x2), .val (.int x3), .val (.int x4), .val (.int x5), .val (.int (0 : Int32)), .val (.int (1 : Int32)), .val (.int vb7), .val (.int vb8), .val (.int vk), .val (.int vc0), .val (.int vc1), .val (.int vd0), .val (.int vd1), .val (.int vp1), .val (.int vp2), .val (.ref b58), .val (.ref b67), .val (.ref b79), .val (.ref b83), .unset] [(.ref b58), (.ref b79)])) _
            refine st92.trans ?_
            show Steps p.tables e below (T92.setTop (mkF m 295 #[.val (.int x1), .val (.int x2), .val (.int x3), .val (.int x4), .val (.int x5), .val (.int (0 : Int32)), .val (.int (1 : Int32)), .val (.int vb7), .val (.int vb8), .val (.int vk), .val (.int vc0), .val (.int vc1), .val (.int vd0), .val (.int vd1), .val (.int vp1), .val (.int vp2), .val (.ref b58), .val (.ref b67), .val (.ref b79), .val (.ref b83), .unset] [(.int (0 : Int32))])) _
            refine XS.ifNo X92.here hx rfl (hb hby at_295) rfl ((if0 _ _).trans (teq (by decide : (0 : Int32) = (0 : Int32))).2) ?_
            show Steps p.tables e below (T92.setTop (mkF m 298 #[.val (.int x1), .val (.int x2), .val (.int x3), .val (.int x4), .val (.int x5), .val (.int (0 : Int32)), .val (.int (1 : Int32)), .val (.int vb7), .val (.int vb8), .val (.int vk), .val (.int vc0), .val (.int vc1), .val (.int vd0), .val (.int vd1), .val (.int vp1), .val (.int vp2), .val (.ref b58), .val (.ref b67), .val (.ref b79), .val (.ref b83), .unset] [])) _
            refine XS.iconst X92.here hx rfl (hb hby at_298) ?_
            show Steps p.tables e below (T92.setTop (mkF m 299 #[.val (.int x1), .val (.int x2), .val (.int x3), .val (.int x4), .val (.int x5), .val (.int (0 : Int32)), .val (.int (1 : Int32)), .val (.int vb7), .val (.int vb8), .val (.int vk), .val (.int vc0), .val (.int vc1), .val (.int vd0), .val (.int vd1), .val (.int vp1), .val (.int vp2), .val (.ref b58), .val (.ref b67), .val (.ref b79), .val (.ref b83), .unset] [(.int (1 : Int32))])) _
            refine XS.goto X92.here hx rfl (pc0 := 299) (pc' := 303) rfl (hb hby at_299) (by decide) (by decide) ?_
            show Steps p.tables e below (T92.setTop (mkF m 303 #[.val (.int x1), .val (.int x2), .val (.int x3), .val (.int x4), .val (.int x5), .val (.int (0 : Int32)), .val (.int (1 : Int32)), .val (.int vb7), .val (.int vb8), .val (.int vk), .val (.int vc0), .val (.int vc1), .val (.int vd0), .val (.int vd1), .val (.int vp1), .val (.int vp2), .val (.ref b58), .val (.ref b67), .val (.ref b79), .val (.ref b83), .unset] [(.int (1 : Int32))])) _
            exact retN X92 hx (t := .boolean) Bd.returns (by simp) (hb hby at_303) hr
          · show own_Q_own_law Z x1 x2 x3 x4 x5 cz h0 n0 _ T92.heap _
            rw [e92]
            exact ⟨rfl, N92⟩
        · skip
          have pre93 : ∀ t, Steps p.tables e below (T85.setTop (mkF m 307 #[.val (.int x1), .val (.int x2), .val (.int x3), .val (.int x4), .val (.int x5), .val (.int (0 : Int32)), .val (.int (1 : Int32)), .val (.int vb7), .val (.int vb8), .val (.int vk), .val (.int vc0), .val (.int vc1), .val (.int vd0), .val (.int vd1), .val (.int vp1), .val (.int vp2), .val (.ref b58), .val (.ref b67), .val (.ref b79), .val (.ref b83), .unset] [(.int (3 : Int32)), (.int vk)])) t → Steps p.tables e below (s₁.setTop (entryFrame m #[(.int x1), (.int x2), (.int x3), (.int x4), (.int x5)] maxLocals)) t := fun t k => pre90 t (by
            refine XS.icmpYes X85.here hx rfl (pc0 := 285) (pc' := 304) rfl (hb hby at_285) rfl (feq hc91).2 (by decide) (by decide) ?_
            show Steps p.tables e below (T85.setTop (mkF m 304 #[.val (.int x1), .val (.int x2), .val (.int x3), .val (.int x4), .val (.int x5), .val (.int (0 : Int32)), .val (.int (1 : Int32)), .val (.int vb7), .val (.int vb8), .val (.int vk), .val (.int vc0), .val (.int vc1), .val (.int vd0), .val (.int vd1), .val (.int vp1), .val (.int vp2), .val (.ref b58), .val (.ref b67), .val (.ref b79), .val (.ref b83), .unset] [])) _
            refine XS.iload X85.here hx rfl (hb hby at_304) rfl ?_
            show Steps p.tables e below (T85.setTop (mkF m 306 #[.val (.int x1), .val (.int x2), .val (.int x3), .val (.int x4), .val (.int x5), .val (.int (0 : Int32)), .val (.int (1 : Int32)), .val (.int vb7), .val (.int vb8), .val (.int vk), .val (.int vc0), .val (.int vc1), .val (.int vd0), .val (.int vd1), .val (.int vp1), .val (.int vp2), .val (.ref b58), .val (.ref b67), .val (.ref b79), .val (.ref b83), .unset] [(.int vk)])) _
            refine XS.iconst X85.here hx rfl (hb hby at_306) ?_
            show Steps p.tables e below (T85.setTop (mkF m 307 #[.val (.int x1), .val (.int x2), .val (.int x3), .val (.int x4), .val (.int x5), .val (.int (0 : Int32)), .val (.int (1 : Int32)), .val (.int vb7), .val (.int vb8), .val (.int vk), .val (.int vc0), .val (.int vc1), .val (.int vd0), .val (.int vd1), .val (.int vp1), .val (.int vp2), .val (.ref b58), .val (.ref b67), .val (.ref b79), .val (.ref b83), .unset] [(.int (3 : Int32)), (.int vk)])) _
            exact k)
          by_cases hc94 : vk = (3 : Int32)
          · skip
            obtain ⟨cq95, kq95, q95a, q95b, q95c⟩ := isOf hZ rfl Ee81
            obtain ⟨_, _, ⟨T95, L95, k95, n95⟩, -, X95, ⟨Lc95, hQ95, l95, y95, z95⟩, st95⟩ := X85.virtualBack hx (y := (⟨"com/example/vigilant_consumer/vigilantconsumer/TopicPartition", "equals", "(Ljava/lang/Object;)Z"⟩ : MethodName)) (z := (⟨"com/example/vigilant_consumer/vigilantconsumer/TopicPartition", "equals", "(Ljava/lang/Object;)Z"⟩ : MethodName)) hown (mvT hZ (hw _ (List.mem_of_getElem? (i := 59) rfl))) (mvT hZ (hw _ (List.mem_of_getElem? (i := 60) rfl))) (notFace_of_selects (args := #[]) (mvT hZ (hw _ (List.mem_of_getElem? (i := 62) rfl)))) (mvT hZ (hw _ (List.mem_of_getElem? (i := 62) rfl))) (mvT hZ (hw _ (List.mem_of_getElem? (i := 61) rfl))) (by decide) (backOf (W := 0) (own_teqS l Z a0 hw [] b79 b79 b58 vp1 T85.heap n0 Z86 Ee81 Ft81 Fp81 Ft81 Fp81 Ee65) hZ (hw _ (List.mem_of_getElem? (i := 63) rfl)) (hw _ (List.mem_of_getElem? (i := 33) rfl)) (by decide) (by decide)) q95a q95c (g := (mkF m 314 #[.val (.int x1), .val (.int x2), .val (.int x3), .val (.int x4), .val (.int x5), .val (.int (0 : Int32)), .val (.int (1 : Int32)), .val (.int vb7), .val (.int vb8), .val (.int vk), .val (.int vc0), .val (.int vc1), .val (.int vd0), .val (.int vd1), .val (.int vp1), .val (.int vp2), .val (.ref b58), .val (.ref b67), .val (.ref b79), .val (.ref b83), .unset] [(.ref b79), (.ref b79)])) rfl (by rw [hml]; rfl) (Steps.refl _) (argsL := [(.ref b79)]) (rest := []) (lenOf own_pd8 rfl) rfl (by show 2 * 0 + _ ≤ _; exact Nat.le_of_eq rfl) (hb hby at_314) (fun _ _ => ⟨rfl, rfl, (by decide : 12 + 0 ≤ _), (by decide : 66 + 0 ≤ _)⟩)
            dsimp only [Pt.U, Pt.locs, Pt.cells, Pt.slots] at X95 l95 y95 z95 st95 hQ95
            subst l95 y95 z95
            obtain ⟨rfl, N95q, e95⟩ := hQ95
            have N95 := Fr.app N85 N95q
            obtain ⟨fs, hr, hrun, hended, hRW⟩ := X95.leaveW hS (by rw [e95]; exact hk) (v := some (.int (1 : Int32))) (fun h => by rw [Bd.returns] at h; cases h)
            refine ⟨_, _, pre93 _ ?_, hrun, hended, _, _, rfl, ?_, hRW.1, hRW.2.1, hRW.2.2.1, hRW.2.2.2.mono (by decide) (by decide)⟩
            · refine XS.icmpNo X85.here hx rfl (hb hby at_307) rfl (teq hc94).2 ?_
              show Steps p.tables e below (T85.setTop (mkF m 310 #[.val (.int x1), .val (.int x2), .val (.int x3), .val (.int x4), .val (.int x5), .val (.int (0 : Int32)), .val (.int (1 : Int32)), .val (.int vb7), .val (.int vb8), .val (.int vk), .val (.int vc0), .val (.int vc1), .val (.int vd0), .val (.int vd1), .val (.int vp1), .val (.int vp2), .val (.ref b58), .val (.ref b67), .val (.ref b79), .val (.ref b83), .unset] [])) _
              refine XS.aload X85.here hx rfl (hb hby at_310) rfl rfl ?_
              show Steps p.tables e below (T85.setTop (mkF m 312 #[.val (.int x1), .val (.int x2), .val (.int x3), .val (.int x4), .val (.int x5), .val (.int (0 : Int32)), .val (.int (1 : Int32)), .val (.int vb7), .val (.int vb8), .val (.int vk), .val (.int vc0), .val (.int vc1), .val (.int vd0), .val (.int vd1), .val (.int vp1), .val (.int vp2), .val (.ref b58), .val (.ref b67), .val (.ref b79), .val (.ref b83), .unset] [(.ref b79)])) _
              refine XS.aload X85.here hx rfl (hb hby at_312) rfl rfl ?_
              show Steps p.tables e below (T85.setTop (mkF m 314 #[.val (.int x1), .val (.int x2), .val (.int x3), .val (.int x4), .val (.int x5), .val (.int (0 : Int32)), .val (.int (1 : Int32)), .val (.int vb7), .val (.int vb8), .val (.int vk), .val (.int vc0), .val (.int vc1), .val (.int vd0), .val (.int vd1), .val (.int vp1), .val (.int vp2), .val (.ref b58), .val (.ref b67), .val (.ref b79), .val (.ref b83), .unset] [(.ref b79), (.ref b79)])) _
              refine st95.trans ?_
              show Steps p.tables e below (T95.setTop (mkF m 317 #[.val (.int x1), .val (.int x2), .val (.int x3), .val (.int x4), .val (.int x5), .val (.int (0 : Int32)), .val (.int (1 : Int32)), .val (.int vb7), .val (.int vb8), .val (.int vk), .val (.int vc0), .val (.int vc1), .val (.int vd0), .val (.int vd1), .val (.int vp1), .val (.int vp2), .val (.ref b58), .val (.ref b67), .val (.ref b79), .val (.ref b83), .unset] [(.int (1 : Int32))])) _
              exact retN X95 hx (t := .boolean) Bd.returns (by simp) (hb hby at_317) hr
            · show own_Q_own_law Z x1 x2 x3 x4 x5 cz h0 n0 _ T95.heap _
              rw [e95]
              exact ⟨rfl, N95⟩
          · skip
            have pre97 : ∀ t, Steps p.tables e below (T85.setTop (mkF m 356 #[.val (.int x1), .val (.int x2), .val (.int x3), .val (.int x4), .val (.int x5), .val (.int (0 : Int32)), .val (.int (1 : Int32)), .val (.int vb7), .val (.int vb8), .val (.int vk), .val (.int vc0), .val (.int vc1), .val (.int vd0), .val (.int vd1), .val (.int vp1), .val (.int vp2), .val (.ref b58), .val (.ref b67), .val (.ref b79), .val (.ref b83), .unset] [(.int (0 : Int32))])) t → Steps p.tables e below (s₁.setTop (entryFrame m #[(.int x1), (.int x2), (.int x3), (.int x4), (.int x5)] maxLocals)) t := fun t k => pre93 t (by
              refine XS.icmpYes X85.here hx rfl (pc0 := 307) (pc' := 318) rfl (hb hby at_307) rfl (feq hc94).2 (by decide) (by decide) ?_
              show Steps p.tables e below (T85.setTop (mkF m 318 #[.val (.int x1), .val (.int x2), .val (.int x3), .val (.int x4), .val (.int x5), .val (.int (0 : Int32)), .val (.int (1 : Int32)), .val (.int vb7), .val (.int vb8), .val (.int vk), .val (.int vc0), .val (.int vc1), .val (.int vd0), .val (.int vd1), .val (.int vp1), .val (.int vp2), .val (.ref b58), .val (.ref b67), .val (.ref b79), .val (.ref b83), .unset] [])) _
              refine XS.iload X85.here hx rfl (hb hby at_318) rfl ?_
              show Steps p.tables e below (T85.setTop (mkF m 320 #[.val (.int x1), .val (.int x2), .val (.int x3), .val (.int x4), .val (.int x5), .val (.int (0 : Int32)), .val (.int (1 : Int32)), .val (.int vb7), .val (.int vb8), .val (.int vk), .val (.int vc0), .val (.int vc1), .val (.int vd0), .val (.int vd1), .val (.int vp1), .val (.int vp2), .val (.ref b58), .val (.ref b67), .val (.ref b79), .val (.ref b83), .unset] [(.int vp1)])) _
              refine XS.iload X85.here hx rfl (hb hby at_320) rfl ?_
              show Steps p.tables e below (T85.setTop (mkF m 322 #[.val (.int x1), .val (.int x2), .val (.int x3), .val (.int x4), .val (.int x5), .val (.int (0 : Int32)), .val (.int (1 : Int32)), .val (.int vb7), .val (.int vb8), .val (.int vk), .val (.int vc0), .val (.int vc1), .val (.int vd0), .val (.int vd1), .val (.int vp1), .val (.int vp2), .val (.ref b58), .val (.ref b67), .val (.ref b79), .val (.ref b83), .unset] [(.int vp2), (.int vp1)])) _
              by_cases hc96 : vp1 = vp2
              · skip
                refine XS.icmpNo X85.here hx rfl (hb hby at_322) rfl (teq hc96).2 ?_
                show Steps p.tables e below (T85.setTop (mkF m 325 #[.val (.int x1), .val (.int x2), .val (.int x3), .val (.int x4), .val (.int x5), .val (.int (0 : Int32)), .val (.int (1 : Int32)), .val (.int vb7), .val (.int vb8), .val (.int vk), .val (.int vc0), .val (.int vc1), .val (.int vd0), .val (.int vd1), .val (.int vp1), .val (.int vp2), .val (.ref b58), .val (.ref b67), .val (.ref b79), .val (.ref b83), .unset] [])) _
                refine XS.iload X85.here hx rfl (hb hby at_325) rfl ?_
                show Steps p.tables e below (T85.setTop (mkF m 327 #[.val (.int x1), .val (.int x2), .val (.int x3), .val (.int x4), .val (.int x5), .val (.int (0 : Int32)), .val (.int (1 : Int32)), .val (.int vb7), .val (.int vb8), .val (.int vk), .val (.int vc0), .val (.int vc1), .val (.int vd0), .val (.int vd1), .val (.int vp1), .val (.int vp2), .val (.ref b58), .val (.ref b67), .val (.ref b79), .val (.ref b83), .unset] [(.int (0 : Int32))])) _
                refine XS.iload X85.here hx rfl (hb hby at_327) rfl ?_
                show Steps p.tables e below (T85.setTop (mkF m 329 #[.val (.int x1), .val (.int x2), .val (.int x3), .val (.int x4), .val (.int x5), .val (.int (0 : Int32)), .val (.int (1 : Int32)), .val (.int vb7), .val (.int vb8), .val (.int vk), .val (.int vc0), .val (.int vc1), .val (.int vd0), .val (.int vd1), .val (.int vp1), .val (.int vp2), .val (.ref b58), .val (.ref b67), .val (.ref b79), .val (.ref b83), .unset] [(.int (1 : Int32)), (.int (0 : Int32))])) _
                refine XS.icmpYes X85.here hx rfl (pc0 := 329) (pc' := 355) rfl (hb hby at_329) rfl (feq (by decide : ¬ ((0 : Int32) = (1 : Int32)))).2 (by decide) (by decide) ?_
                show Steps p.tables e below (T85.setTop (mkF m 355 #[.val (.int x1), .val (.int x2), .val (.int x3), .val (.int x4), .val (.int x5), .val (.int (0 : Int32)), .val (.int (1 : Int32)), .val (.int vb7), .val (.int vb8), .val (.int vk), .val (.int vc0), .val (.int vc1), .val (.int vd0), .val (.int vd1), .val (.int vp1), .val (.int vp2), .val (.ref b58), .val (.ref b67), .val (.ref b79), .val (.ref b83), .unset] [])) _
                refine XS.iconst X85.here hx rfl (hb hby at_355) ?_
                exact k
              · skip
                refine XS.icmpYes X85.here hx rfl (pc0 := 322) (pc' := 355) rfl (hb hby at_322) rfl (feq hc96).2 (by decide) (by decide) ?_
                show Steps p.tables e below (T85.setTop (mkF m 355 #[.val (.int x1), .val (.int x2), .val (.int x3), .val (.int x4), .val (.int x5), .val (.int (0 : Int32)), .val (.int (1 : Int32)), .val (.int vb7), .val (.int vb8), .val (.int vk), .val (.int vc0), .val (.int vc1), .val (.int vd0), .val (.int vd1), .val (.int vp1), .val (.int vp2), .val (.ref b58), .val (.ref b67), .val (.ref b79), .val (.ref b83), .unset] [])) _
                refine XS.iconst X85.here hx rfl (hb hby at_355) ?_
                exact k)
            obtain ⟨cq98, kq98, q98a, q98b, q98c⟩ := isOf hZ rfl Ee81
            obtain ⟨_, _, ⟨T98, L98, k98, n98⟩, -, X98, ⟨Lc98, hQ98, l98, y98, z98⟩, st98⟩ := X85.virtualBack hx (y := (⟨"com/example/vigilant_consumer/vigilantconsumer/TopicPartition", "equals", "(Ljava/lang/Object;)Z"⟩ : MethodName)) (z := (⟨"com/example/vigilant_consumer/vigilantconsumer/TopicPartition", "equals", "(Ljava/lang/Object;)Z"⟩ : MethodName)) hown (mvT hZ (hw _ (List.mem_of_getElem? (i := 59) rfl))) (mvT hZ (hw _ (List.mem_of_getElem? (i := 60) rfl))) (notFace_of_selects (args := #[]) (mvT hZ (hw _ (List.mem_of_getElem? (i := 62) rfl)))) (mvT hZ (hw _ (List.mem_of_getElem? (i := 62) rfl))) (mvT hZ (hw _ (List.mem_of_getElem? (i := 61) rfl))) (by decide) (backOf (W := 0) (own_teq12 l Z a0 hw [] b79 b83 b58 b67 vp1 vp2 b65 b77 kb65 kb77 cz ((vc0).toInt8.toInt32) ((vd0).toInt8.toInt32) ((vd1).toInt8.toInt32) T85.heap n0 Z86 Ee85 Ft81 Fp81 Ft85 Fp85 Ee65 Fc65 Fv65 VB65 Ee77 Fc77 Fv77 VB77 ne_b58_b67 (S0.ext O.2) hcz) hZ (hw _ (List.mem_of_getElem? (i := 63) rfl)) (hw _ (List.mem_of_getElem? (i := 33) rfl)) (by decide) (by decide)) q98a q98c (g := (mkF m 362 #[.val (.int x1), .val (.int x2), .val (.int x3), .val (.int x4), .val (.int x5), .val (.int (0 : Int32)), .val (.int (1 : Int32)), .val (.int vb7), .val (.int vb8), .val (.int vk), .val (.int vc0), .val (.int vc1), .val (.int vd0), .val (.int vd1), .val (.int vp1), .val (.int vp2), .val (.ref b58), .val (.ref b67), .val (.ref b79), .val (.ref b83), .val (.int (0 : Int32))] [(.ref b83), (.ref b79)])) rfl (by rw [hml]; rfl) (Steps.refl _) (argsL := [(.ref b83)]) (rest := []) (lenOf own_pd8 rfl) rfl (by show 2 * 0 + _ ≤ _; exact Nat.le_of_eq rfl) (hb hby at_362) (fun _ _ => ⟨rfl, rfl, (by decide : 12 + 0 ≤ _), (by decide : 66 + 0 ≤ _)⟩)
            dsimp only [Pt.U, Pt.locs, Pt.cells, Pt.slots] at X98 l98 y98 z98 st98 hQ98
            subst l98 y98 z98
            obtain ⟨rfl, N98q, e98⟩ := hQ98
            have N98 := Fr.app N85 N98q
            obtain ⟨cq99, kq99, q99a, q99b, q99c⟩ := isOf hZ e98 Ee85
            obtain ⟨_, _, ⟨T99, L99, k99, n99⟩, -, X99, ⟨Lc99, hQ99, l99, y99, z99⟩, st99⟩ := X98.virtualBack hx (y := (⟨"com/example/vigilant_consumer/vigilantconsumer/TopicPartition", "equals", "(Ljava/lang/Object;)Z"⟩ : MethodName)) (z := (⟨"com/example/vigilant_consumer/vigilantconsumer/TopicPartition", "equals", "(Ljava/lang/Object;)Z"⟩ : MethodName)) hown (mvT hZ (hw _ (List.mem_of_getElem? (i := 59) rfl))) (mvT hZ (hw _ (List.mem_of_getElem? (i := 60) rfl))) (notFace_of_selects (args := #[]) (mvT hZ (hw _ (List.mem_of_getElem? (i := 62) rfl)))) (mvT hZ (hw _ (List.mem_of_getElem? (i := 62) rfl))) (mvT hZ (hw _ (List.mem_of_getElem? (i := 61) rfl))) (by decide) (backOf (W := 0) (own_teq21 l Z a0 hw [] b83 b79 b67 b58 vp2 vp1 b77 b65 kb77 kb65 cz ((vd0).toInt8.toInt32) ((vd1).toInt8.toInt32) ((vc0).toInt8.toInt32) T85.heap n0 Z86 Ee81 Ft85 Fp85 Ft81 Fp81 Ee77 Fc77 Fv77 VB77 Ee65 Fc65 Fv65 VB65 (Ne.symm ne_b58_b67) (S0.ext O.2) hcz) hZ (hw _ (List.mem_of_getElem? (i := 63) rfl)) (hw _ (List.mem_of_getElem? (i := 33) rfl)) (by decide) (by decide)) q99a q99c (g := (mkF m 374 #[.val (.int x1), .val (.int x2), .val (.int x3), .val (.int x4), .val (.int x5), .val (.int (0 : Int32)), .val (.int (1 : Int32)), .val (.int vb7), .val (.int vb8), .val (.int vk), .val (.int vc0), .val (.int vc1), .val (.int vd0), .val (.int vd1), .val (.int vp1), .val (.int vp2), .val (.ref b58), .val (.ref b67), .val (.ref b79), .val (.ref b83), .val (.int (0 : Int32))] [(.ref b79), (.ref b83)])) rfl (by rw [hml]; rfl) (Steps.refl _) (argsL := [(.ref b79)]) (rest := []) (lenOf own_pd8 rfl) rfl (by show 2 * 0 + _ ≤ _; exact Nat.le_of_eq rfl) (hb hby at_374) (fun _ _ => ⟨rfl, e98, (by decide : 12 + 0 ≤ _), (by decide : 66 + 0 ≤ _)⟩)
            dsimp only [Pt.U, Pt.locs, Pt.cells, Pt.slots] at X99 l99 y99 z99 st99 hQ99
            subst l99 y99 z99
            obtain ⟨rfl, N99q, e99⟩ := hQ99
            have N99 := Fr.app N98 N99q
            obtain ⟨fs, hr, hrun, hended, hRW⟩ := X99.leaveW hS (by rw [e99]; exact hk) (v := some (.int (1 : Int32))) (fun h => by rw [Bd.returns] at h; cases h)
            refine ⟨_, _, pre97 _ ?_, hrun, hended, _, _, rfl, ?_, hRW.1, hRW.2.1, hRW.2.2.1, hRW.2.2.2.mono (by decide) (by decide)⟩
            · show Steps p.tables e below (T85.setTop (mkF m 356 #[.val (.int x1), .val (.int x2), .val (.int x3), .val (.int x4), .val (.int x5), .val (.int (0 : Int32)), .val (.int (1 : Int32)), .val (.int vb7), .val (.int vb8), .val (.int vk), .val (.int vc0), .val (.int vc1), .val (.int vd0), .val (.int vd1), .val (.int vp1), .val (.int vp2), .val (.ref b58), .val (.ref b67), .val (.ref b79), .val (.ref b83), .unset] [(.int (0 : Int32))])) _
              refine XS.istore X85.here hx rfl (hb hby at_356) rfl (l' := #[.val (.int x1), .val (.int x2), .val (.int x3), .val (.int x4), .val (.int x5), .val (.int (0 : Int32)), .val (.int (1 : Int32)), .val (.int vb7), .val (.int vb8), .val (.int vk), .val (.int vc0), .val (.int vc1), .val (.int vd0), .val (.int vd1), .val (.int vp1), .val (.int vp2), .val (.ref b58), .val (.ref b67), .val (.ref b79), .val (.ref b83), .val (.int (0 : Int32))]) rfl ?_
              show Steps p.tables e below (T85.setTop (mkF m 358 #[.val (.int x1), .val (.int x2), .val (.int x3), .val (.int x4), .val (.int x5), .val (.int (0 : Int32)), .val (.int (1 : Int32)), .val (.int vb7), .val (.int vb8), .val (.int vk), .val (.int vc0), .val (.int vc1), .val (.int vd0), .val (.int vd1), .val (.int vp1), .val (.int vp2), .val (.ref b58), .val (.ref b67), .val (.ref b79), .val (.ref b83), .val (.int (0 : Int32))] [])) _
              refine XS.aload X85.here hx rfl (hb hby at_358) rfl rfl ?_
              show Steps p.tables e below (T85.setTop (mkF m 360 #[.val (.int x1), .val (.int x2), .val (.int x3), .val (.int x4), .val (.int x5), .val (.int (0 : Int32)), .val (.int (1 : Int32)), .val (.int vb7), .val (.int vb8), .val (.int vk), .val (.int vc0), .val (.int vc1), .val (.int vd0), .val (.int vd1), .val (.int vp1), .val (.int vp2), .val (.ref b58), .val (.ref b67), .val (.ref b79), .val (.ref b83), .val (.int (0 : Int32))] [(.ref b79)])) _
              refine XS.aload X85.here hx rfl (hb hby at_360) rfl rfl ?_
              show Steps p.tables e below (T85.setTop (mkF m 362 #[.val (.int x1), .val (.int x2), .val (.int x3), .val (.int x4), .val (.int x5), .val (.int (0 : Int32)), .val (.int (1 : Int32)), .val (.int vb7), .val (.int vb8), .val (.int vk), .val (.int vc0), .val (.int vc1), .val (.int vd0), .val (.int vd1), .val (.int vp1), .val (.int vp2), .val (.ref b58), .val (.ref b67), .val (.ref b79), .val (.ref b83), .val (.int (0 : Int32))] [(.ref b83), (.ref b79)])) _
              refine st98.trans ?_
              show Steps p.tables e below (T98.setTop (mkF m 365 #[.val (.int x1), .val (.int x2), .val (.int x3), .val (.int x4), .val (.int x5), .val (.int (0 : Int32)), .val (.int (1 : Int32)), .val (.int vb7), .val (.int vb8), .val (.int vk), .val (.int vc0), .val (.int vc1), .val (.int vd0), .val (.int vd1), .val (.int vp1), .val (.int vp2), .val (.ref b58), .val (.ref b67), .val (.ref b79), .val (.ref b83), .val (.int (0 : Int32))] [(.int (0 : Int32))])) _
              refine XS.iload X98.here hx rfl (hb hby at_365) rfl ?_
              show Steps p.tables e below (T98.setTop (mkF m 367 #[.val (.int x1), .val (.int x2), .val (.int x3), .val (.int x4), .val (.int x5), .val (.int (0 : Int32)), .val (.int (1 : Int32)), .val (.int vb7), .val (.int vb8), .val (.int vk), .val (.int vc0), .val (.int vc1), .val (.int vd0), .val (.int vd1), .val (.int vp1), .val (.int vp2), .val (.ref b58), .val (.ref b67), .val (.ref b79), .val (.ref b83), .val (.int (0 : Int32))] [(.int (0 : Int32)), (.int (0 : Int32))])) _
              refine XS.icmpNo X98.here hx rfl (hb hby at_367) rfl (teq (by decide : (0 : Int32) = (0 : Int32))).2 ?_
              show Steps p.tables e below (T98.setTop (mkF m 370 #[.val (.int x1), .val (.int x2), .val (.int x3), .val (.int x4), .val (.int x5), .val (.int (0 : Int32)), .val (.int (1 : Int32)), .val (.int vb7), .val (.int vb8), .val (.int vk), .val (.int vc0), .val (.int vc1), .val (.int vd0), .val (.int vd1), .val (.int vp1), .val (.int vp2), .val (.ref b58), .val (.ref b67), .val (.ref b79), .val (.ref b83), .val (.int (0 : Int32))] [])) _
              refine XS.aload X98.here hx rfl (hb hby at_370) rfl rfl ?_
              show Steps p.tables e below (T98.setTop (mkF m 372 #[.val (.int x1), .val (.int x2), .val (.int x3), .val (.int x4), .val (.int x5), .val (.int (0 : Int32)), .val (.int (1 : Int32)), .val (.int vb7), .val (.int vb8), .val (.int vk), .val (.int vc0), .val (.int vc1), .val (.int vd0), .val (.int vd1), .val (.int vp1), .val (.int vp2), .val (.ref b58), .val (.ref b67), .val (.ref b79), .val (.ref b83), .val (.int (0 : Int32))] [(.ref b83)])) _
              refine XS.aload X98.here hx rfl (hb hby at_372) rfl rfl ?_
              show Steps p.tables e below (T98.setTop (mkF m 374 #[.val (.int x1), .val (.int x2), .val (.int x3), .val (.int x4), .val (.int x5), .val (.int (0 : Int32)), .val (.int (1 : Int32)), .val (.int vb7), .val (.int vb8), .val (.int vk), .val (.int vc0), .val (.int vc1), .val (.int vd0), .val (.int vd1), .val (.int vp1), .val (.int vp2), .val (.ref b58), .val (.ref b67), .val (.ref b79), .val (.ref b83), .val (.int (0 : Int32))] [(.ref b79), (.ref b83)])) _
              refine st99.trans ?_
              show Steps p.tables e below (T99.setTop (mkF m 377 #[.val (.int x1), .val (.int x2), .val (.int x3), .val (.int x4), .val (.int x5), .val (.int (0 : Int32)), .val (.int (1 : Int32)), .val (.int vb7), .val (.int vb8), .val (.int vk), .val (.int vc0), .val (.int vc1), .val (.int vd0), .val (.int vd1), .val (.int vp1), .val (.int vp2), .val (.ref b58), .val (.ref b67), .val (.ref b79), .val (.ref b83), .val (.int (0 : Int32))] [(.int (0 : Int32))])) _
              refine XS.iload X99.here hx rfl (hb hby at_377) rfl ?_
              show Steps p.tables e below (T99.setTop (mkF m 379 #[.val (.int x1), .val (.int x2), .val (.int x3), .val (.int x4), .val (.int x5), .val (.int (0 : Int32)), .val (.int (1 : Int32)), .val (.int vb7), .val (.int vb8), .val (.int vk), .val (.int vc0), .val (.int vc1), .val (.int vd0), .val (.int vd1), .val (.int vp1), .val (.int vp2), .val (.ref b58), .val (.ref b67), .val (.ref b79), .val (.ref b83), .val (.int (0 : Int32))] [(.int (0 : Int32)), (.int (0 : Int32))])) _
              refine XS.icmpNo X99.here hx rfl (hb hby at_379) rfl (teq (by decide : (0 : Int32) = (0 : Int32))).2 ?_
              show Steps p.tables e below (T99.setTop (mkF m 382 #[.val (.int x1), .val (.int x2), .val (.int x3), .val (.int x4), .val (.int x5), .val (.int (0 : Int32)), .val (.int (1 : Int32)), .val (.int vb7), .val (.int vb8), .val (.int vk), .val (.int vc0), .val (.int vc1), .val (.int vd0), .val (.int vd1), .val (.int vp1), .val (.int vp2), .val (.ref b58), .val (.ref b67), .val (.ref b79), .val (.ref b83), .val (.int (0 : Int32))] [])) _
              refine XS.iconst X99.here hx rfl (hb hby at_382) ?_
              show Steps p.tables e below (T99.setTop (mkF m 383 #[.val (.int x1), .val (.int x2), .val (.int x3), .val (.int x4), .val (.int x5), .val (.int (0 : Int32)), .val (.int (1 : Int32)), .val (.int vb7), .val (.int vb8), .val (.int vk), .val (.int vc0), .val (.int vc1), .val (.int vd0), .val (.int vd1), .val (.int vp1), .val (.int vp2), .val (.ref b58), .val (.ref b67), .val (.ref b79), .val (.ref b83), .val (.int (0 : Int32))] [(.int (1 : Int32))])) _
              refine XS.goto X99.here hx rfl (pc0 := 383) (pc' := 387) rfl (hb hby at_383) (by decide) (by decide) ?_
              show Steps p.tables e below (T99.setTop (mkF m 387 #[.val (.int x1), .val (.int x2), .val (.int x3), .val (.int x4), .val (.int x5), .val (.int (0 : Int32)), .val (.int (1 : Int32)), .val (.int vb7), .val (.int vb8), .val (.int vk), .val (.int vc0), .val (.int vc1), .val (.int vd0), .val (.int vd1), .val (.int vp1), .val (.int vp2), .val (.ref b58), .val (.ref b67), .val (.ref b79), .val (.ref b83), .val (.int (0 : Int32))] [(.int (1 : Int32))])) _
              exact retN X99 hx (t := .boolean) Bd.returns (by simp) (hb hby at_387) hr
            · show own_Q_own_law Z x1 x2 x3 x4 x5 cz h0 n0 _ T99.heap _
              rw [e99]
              exact ⟨rfl, N99⟩
  · skip
    by_cases hc100 : vb6 = (0 : Int32)
    · skip
      have one_vb5 : vb5 = (1 : Int32) := by rcases (show vb5 = 0 ∨ vb5 = 1 from by rw [hvb5]; exact own_01) with q | q; exact absurd q hc16; exact q
      obtain ⟨T101, h101, X101, e101, E101, A101, D101, -, st101⟩ := newO X0 hx hZ hown (hw _ (List.mem_of_getElem? (i := 1) rfl)) (hw _ (List.mem_of_getElem? (i := 2) rfl)) (hw _ (List.mem_of_getElem? (i := 3) rfl)) e0 (g := (mkF m 150 #[.val (.int x1), .val (.int x2), .val (.int x3), .val (.int x4), .val (.int x5), .val (.int (1 : Int32)), .val (.int (0 : Int32)), .val (.int vb7), .val (.int vb8), .val (.int vk), .val (.int vc0), .val (.int vc1), .val (.int vd0), .val (.int vd1), .val (.int vp1), .val (.int vp2), .unset, .unset, .unset, .unset, .unset] [])) rfl (hb hby at_150) (by decide) (by decide)
      obtain ⟨b101, g101⟩ : ∃ z, z = h0.size := ⟨_, rfl⟩
      rw [← g101] at A101 D101 st101
      have g_b101 : n0 ≤ b101 := Nat.le_trans Z0 (Nat.le_of_eq g101.symm)
      have O := O.ext E101
      have hk := Nat.le_trans hk E101.1
      have Z102 : n0 ≤ h101.size := Nat.le_trans Z0 E101.1
      have F_coder_b101 : Fld Z h101 b101 "java/lang/String" "coder" "B" (.int (0 : Int32)) := D101 (Or.inr (hw _ (List.mem_of_getElem? (i := 28) rfl))) (ty := .byte) (by decide)
      have F_value_b101 : Fld Z h101 b101 "java/lang/String" "value" "[B" .null := D101 (Or.inr (hw _ (List.mem_of_getElem? (i := 30) rfl))) (ty := (.array .byte)) (by decide)
      have E_b101 := A101
      obtain ⟨T103, h103, k103, X103, e103, E103, A103, st103⟩ := newP X101 hx hZ (hw _ (List.mem_of_getElem? (i := 4) rfl)) e101 (g := (mkF m 155 #[.val (.int x1), .val (.int x2), .val (.int x3), .val (.int x4), .val (.int x5), .val (.int (1 : Int32)), .val (.int (0 : Int32)), .val (.int vb7), .val (.int vb8), .val (.int vk), .val (.int vc0), .val (.int vc1), .val (.int vd0), .val (.int vd1), .val (.int vp1), .val (.int vp2), .unset, .unset, .unset, .unset, .unset] [(.int (2 : Int32)), (.ref b101), (.ref b101)])) rfl (hb hby at_155) rfl (by decide) (cap := 2) (by decide) (by decide) (by decide) (by decide)
      obtain ⟨b103, g103⟩ : ∃ z, z = h101.size := ⟨_, rfl⟩
      rw [← g103] at A103 st103
      have g_b103 : n0 ≤ b103 := Nat.le_trans Z102 (Nat.le_of_eq g103.symm)
      have ne_b101_b103 : b101 ≠ b103 := Nat.ne_of_lt (Nat.lt_of_lt_of_le F_coder_b101.lt (Nat.le_of_eq g103.symm))
      have O := O.ext E103
      have F_coder_b101 := F_coder_b101.ext E103
      have F_value_b101 := F_value_b101.ext E103
      have E_b101 := E_b101.ext E103
      have hk := Nat.le_trans hk E103.1
      have Z104 : n0 ≤ h103.size := Nat.le_trans Z102 E103.1
      have V_b103 : Arv Z h103 b103 k103 .char (2 : Int32) [(.int (0 : Int32)), (.int (0 : Int32))] (.int (0 : Int32)) := (Arv.new A103 (by decide)).pad (pad_rep [] (.int (0 : Int32)) 2)
      obtain ⟨cl105, Ar105, q105, S105, M105, H105, G105⟩ := id V_b103
      have hin105 : ¬ ((0 : Int32) < 0 ∨ cl105.slots.size ≤ ((0 : Int32)).toNatClampNeg) := inb_of S105 ⟨by decide, by decide⟩
      obtain ⟨T106, h106, X106, e106, W106, st106⟩ := stC X103 hx hZ e103 Ar105 (j := (0 : Int32)) hin105 (g := (mkF m 161 #[.val (.int x1), .val (.int x2), .val (.int x3), .val (.int x4), .val (.int x5), .val (.int (1 : Int32)), .val (.int (0 : Int32)), .val (.int vb7), .val (.int vb8), .val (.int vk), .val (.int vc0), .val (.int vc1), .val (.int vd0), .val (.int vd1), .val (.int vp1), .val (.int vp2), .unset, .unset, .unset, .unset, .unset] [(.int vc0), (.int (0 : Int32)), (.ref b103), (.ref b103), (.ref b101), (.ref b101)])) rfl rfl (hb hby at_161)
      have O := O.wr W106 g_b103
      have F_coder_b101 := F_coder_b101.other W106 (Or.inl ne_b101_b103)
      have F_value_b101 := F_value_b101.other W106 (Or.inl ne_b101_b103)
      have E_b101 := E_b101.wr W106
      have hk := Nat.le_trans hk (Keep.of_wr W106).1
      have Z107 : n0 ≤ h106.size := Nat.le_trans Z104 (Keep.of_wr W106).1
      have V_b103 := Arv.set Ar105 q105 S105 M105 H105 G105 (fits_nar_char _) W106 0 rfl (Nat.le_of_ble_eq_true rfl)
      have V_b103 : Arv Z h106 b103 k103 .char (2 : Int32) [(.int vc0), (.int (0 : Int32))] (.int (0 : Int32)) := by have q := V_b103; simp only [(own_Bc Bvc0), List.set] at q; exact q
      have N106 := Fr.snoc X106 N0 g_b103
      obtain ⟨cl108, Ar108, q108, S108, M108, H108, G108⟩ := id V_b103
      have hin108 : ¬ ((1 : Int32) < 0 ∨ cl108.slots.size ≤ ((1 : Int32)).toNatClampNeg) := inb_of S108 ⟨by decide, by decide⟩
      obtain ⟨T109, h109, X109, e109, W109, st109⟩ := stC X106 hx hZ e106 Ar108 (j := (1 : Int32)) hin108 (g := (mkF m 166 #[.val (.int x1), .val (.int x2), .val (.int x3), .val (.int x4), .val (.int x5), .val (.int (1 : Int32)), .val (.int (0 : Int32)), .val (.int vb7), .val (.int vb8), .val (.int vk), .val (.int vc0), .val (.int vc1), .val (.int vd0), .val (.int vd1), .val (.int vp1), .val (.int vp2), .unset, .unset, .unset, .unset, .unset] [(.int vc1), (.int (1 : Int32)), (.ref b103), (.ref b103), (.ref b101), (.ref b101)])) rfl rfl (hb hby at_166)
      have O := O.wr W109 g_b103
      have F_coder_b101 := F_coder_b101.other W109 (Or.inl ne_b101_b103)
      have F_value_b101 := F_value_b101.other W109 (Or.inl ne_b101_b103)
      have E_b101 := E_b101.wr W109
      have hk := Nat.le_trans hk (Keep.of_wr W109).1
      have Z110 : n0 ≤ h109.size := Nat.le_trans Z107 (Keep.of_wr W109).1
      have V_b103 := Arv.set Ar108 q108 S108 M108 H108 G108 (fits_nar_char _) W109 1 rfl (Nat.le_of_ble_eq_true rfl)
      have V_b103 : Arv Z h109 b103 k103 .char (2 : Int32) [(.int vc0), (.int vc1)] (.int (0 : Int32)) := by have q := V_b103; simp only [(own_Bc Bvc1), List.set] at q; exact q
      have N109 := Fr.snoc X109 N106 g_b103
      obtain ⟨_, _, ⟨T111, L111, k111, n111⟩, -, X111, ⟨Lc111, hQ111, l111, y111, z111⟩, st111⟩ := X109.specialBack hx (y := (⟨"java/lang/String", "<init>", "([C)V"⟩ : MethodName)) rfl hown (mvT hZ (hw _ (List.mem_of_getElem? (i := 5) rfl))) (mvT hZ (hw _ (List.mem_of_getElem? (i := 6) rfl))) (mvT hZ (hw _ (List.mem_of_getElem? (i := 7) rfl))) (by decide) (backOf (W := 1) (own_sic2 l Z a0 hw [] b101 b103 k103 cz (vc0) (vc1) h109 n0 Z110 E_b101 F_coder_b101 F_value_b101 g_b101 V_b103 (own_B5 Bvc0) (own_B5 Bvc1) (S0.ext O.2) hcz) hZ (hw _ (List.mem_of_getElem? (i := 7) rfl)) (hw _ (List.mem_of_getElem? (i := 3) rfl)) (by decide) (by decide)) (g := (mkF m 167 #[.val (.int x1), .val (.int x2), .val (.int x3), .val (.int x4), .val (.int x5), .val (.int (1 : Int32)), .val (.int (0 : Int32)), .val (.int vb7), .val (.int vb8), .val (.int vk), .val (.int vc0), .val (.int vc1), .val (.int vd0), .val (.int vd1), .val (.int vp1), .val (.int vp2), .unset, .unset, .unset, .unset, .unset] [(.ref b103), (.ref b101), (.ref b101)])) rfl (by rw [hml]; rfl) (Steps.refl _) (a := b101) (argsL := [(.ref b103)]) (rest := [(.ref b101)]) (lenOf own_pd9 rfl) rfl (by show 2 * 0 + _ ≤ _; exact Nat.le_of_eq rfl) (hb hby at_167) (fun _ _ => ⟨rfl, e109, (by decide : 2 + 1 ≤ _), (by decide : 6 + 2 ≤ _)⟩)
      dsimp only [Pt.U, Pt.locs, Pt.cells, Pt.slots] at X111 l111 y111 z111 st111 hQ111
      subst l111 y111 z111
      obtain ⟨b111, kb111, rfl, N111q, K111, Ee111, Fc111, Fv111, VB111, sz111⟩ := hQ111
      have N111 := Fr.app N109 N111q
      have g_b111 : n0 ≤ b111 := Nat.le_trans Z110 sz111
      have ne_b101_b111 : b101 ≠ b111 := Nat.ne_of_lt (Nat.lt_of_lt_of_le F_coder_b101.lt sz111)
      have ne_b103_b111 : b103 ≠ b111 := Nat.ne_of_lt (Nat.lt_of_lt_of_le V_b103.lt sz111)
      have O := O.keep K111 (allS g_b101 all0)
      have E_b101 := E_b101.keep K111
      have V_b103 := V_b103.keep K111 (ninS (Ne.symm ne_b101_b103) nin0)
      have hk := Nat.le_trans hk K111.1
      have Z112 := Nat.le_trans Z110 K111.1
      obtain ⟨T113, h113, X113, e113, E113, A113, D113, -, st113⟩ := newO X111 hx hZ hown (hw _ (List.mem_of_getElem? (i := 1) rfl)) (hw _ (List.mem_of_getElem? (i := 2) rfl)) (hw _ (List.mem_of_getElem? (i := 3) rfl)) rfl (g := (mkF m 218 #[.val (.int x1), .val (.int x2), .val (.int x3), .val (.int x4), .val (.int x5), .val (.int (1 : Int32)), .val (.int (0 : Int32)), .val (.int vb7), .val (.int vb8), .val (.int vk), .val (.int vc0), .val (.int vc1), .val (.int vd0), .val (.int vd1), .val (.int vp1), .val (.int vp2), .val (.ref b101), .unset, .unset, .unset, .unset] [])) rfl (hb hby at_218) (by decide) (by decide)
      obtain ⟨b113, g113⟩ : ∃ z, z = T111.heap.size := ⟨_, rfl⟩
      rw [← g113] at A113 D113 st113
      have g_b113 : n0 ≤ b113 := Nat.le_trans Z112 (Nat.le_of_eq g113.symm)
      have ne_b101_b113 : b101 ≠ b113 := Nat.ne_of_lt (Nat.lt_of_lt_of_le Ee111.lt (Nat.le_of_eq g113.symm))
      have ne_b111_b113 : b111 ≠ b113 := Nat.ne_of_lt (Nat.lt_of_lt_of_le VB111.lt (Nat.le_of_eq g113.symm))
      have O := O.ext E113
      have Ee111 := Ee111.ext E113
      have Fc111 := Fc111.ext E113
      have Fv111 := Fv111.ext E113
      have VB111 := VB111.ext E113
      have hk := Nat.le_trans hk E113.1
      have Z114 : n0 ≤ h113.size := Nat.le_trans Z112 E113.1
      have F_coder_b113 : Fld Z h113 b113 "java/lang/String" "coder" "B" (.int (0 : Int32)) := D113 (Or.inr (hw _ (List.mem_of_getElem? (i := 28) rfl))) (ty := .byte) (by decide)
      have F_value_b113 : Fld Z h113 b113 "java/lang/String" "value" "[B" .null := D113 (Or.inr (hw _ (List.mem_of_getElem? (i := 30) rfl))) (ty := (.array .byte)) (by decide)
      have E_b113 := A113
      obtain ⟨T115, h115, k115, X115, e115, E115, A115, st115⟩ := newP X113 hx hZ (hw _ (List.mem_of_getElem? (i := 4) rfl)) e113 (g := (mkF m 223 #[.val (.int x1), .val (.int x2), .val (.int x3), .val (.int x4), .val (.int x5), .val (.int (1 : Int32)), .val (.int (0 : Int32)), .val (.int vb7), .val (.int vb8), .val (.int vk), .val (.int vc0), .val (.int vc1), .val (.int vd0), .val (.int vd1), .val (.int vp1), .val (.int vp2), .val (.ref b101), .unset, .unset, .unset, .unset] [(.int (1 : Int32)), (.ref b113), (.ref b113)])) rfl (hb hby at_223) rfl (by decide) (cap := 1) (by decide) (by decide) (by decide) (by decide)
      obtain ⟨b115, g115⟩ : ∃ z, z = h113.size := ⟨_, rfl⟩
      rw [← g115] at A115 st115
      have g_b115 : n0 ≤ b115 := Nat.le_trans Z114 (Nat.le_of_eq g115.symm)
      have ne_b101_b115 : b101 ≠ b115 := Nat.ne_of_lt (Nat.lt_of_lt_of_le Ee111.lt (Nat.le_of_eq g115.symm))
      have ne_b111_b115 : b111 ≠ b115 := Nat.ne_of_lt (Nat.lt_of_lt_of_le VB111.lt (Nat.le_of_eq g115.symm))
      have ne_b113_b115 : b113 ≠ b115 := Nat.ne_of_lt (Nat.lt_of_lt_of_le F_coder_b113.lt (Nat.le_of_eq g115.symm))
      have O := O.ext E115
      have Ee111 := Ee111.ext E115
      have Fc111 := Fc111.ext E115
      have Fv111 := Fv111.ext E115
      have VB111 := VB111.ext E115
      have F_coder_b113 := F_coder_b113.ext E115
      have F_value_b113 := F_value_b113.ext E115
      have E_b113 := E_b113.ext E115
      have hk := Nat.le_trans hk E115.1
      have Z116 : n0 ≤ h115.size := Nat.le_trans Z114 E115.1
      have V_b115 : Arv Z h115 b115 k115 .char (1 : Int32) [(.int (0 : Int32))] (.int (0 : Int32)) := (Arv.new A115 (by decide)).pad (pad_rep [] (.int (0 : Int32)) 1)
      obtain ⟨cl117, Ar117, q117, S117, M117, H117, G117⟩ := id V_b115
      have hin117 : ¬ ((0 : Int32) < 0 ∨ cl117.slots.size ≤ ((0 : Int32)).toNatClampNeg) := inb_of S117 ⟨by decide, by decide⟩
      obtain ⟨T118, h118, X118, e118, W118, st118⟩ := stC X115 hx hZ e115 Ar117 (j := (0 : Int32)) hin117 (g := (mkF m 229 #[.val (.int x1), .val (.int x2), .val (.int x3), .val (.int x4), .val (.int x5), .val (.int (1 : Int32)), .val (.int (0 : Int32)), .val (.int vb7), .val (.int vb8), .val (.int vk), .val (.int vc0), .val (.int vc1), .val (.int vd0), .val (.int vd1), .val (.int vp1), .val (.int vp2), .val (.ref b101), .unset, .unset, .unset, .unset] [(.int vd0), (.int (0 : Int32)), (.ref b115), (.ref b115), (.ref b113), (.ref b113)])) rfl rfl (hb hby at_229)
      have O := O.wr W118 g_b115
      have Ee111 := Ee111.wr W118
      have Fc111 := Fc111.other W118 (Or.inl ne_b101_b115)
      have Fv111 := Fv111.other W118 (Or.inl ne_b101_b115)
      have VB111 := VB111.other W118 ne_b111_b115
      have F_coder_b113 := F_coder_b113.other W118 (Or.inl ne_b113_b115)
      have F_value_b113 := F_value_b113.other W118 (Or.inl ne_b113_b115)
      have E_b113 := E_b113.wr W118
      have hk := Nat.le_trans hk (Keep.of_wr W118).1
      have Z119 : n0 ≤ h118.size := Nat.le_trans Z116 (Keep.of_wr W118).1
      have V_b115 := Arv.set Ar117 q117 S117 M117 H117 G117 (fits_nar_char _) W118 0 rfl (Nat.le_of_ble_eq_true rfl)
      have V_b115 : Arv Z h118 b115 k115 .char (1 : Int32) [(.int vd0)] (.int (0 : Int32)) := by have q := V_b115; simp only [(own_Bc Bvd0), List.set] at q; exact q
      have N118 := Fr.snoc X118 N111 g_b115
      obtain ⟨_, _, ⟨T120, L120, k120, n120⟩, -, X120, ⟨Lc120, hQ120, l120, y120, z120⟩, st120⟩ := X118.specialBack hx (y := (⟨"java/lang/String", "<init>", "([C)V"⟩ : MethodName)) rfl hown (mvT hZ (hw _ (List.mem_of_getElem? (i := 5) rfl))) (mvT hZ (hw _ (List.mem_of_getElem? (i := 6) rfl))) (mvT hZ (hw _ (List.mem_of_getElem? (i := 7) rfl))) (by decide) (backOf (W := 1) (own_sic1 l Z a0 hw [] b113 b115 k115 cz (vd0) h118 n0 Z119 E_b113 F_coder_b113 F_value_b113 g_b113 V_b115 (own_B5 Bvd0) (S0.ext O.2) hcz) hZ (hw _ (List.mem_of_getElem? (i := 7) rfl)) (hw _ (List.mem_of_getElem? (i := 3) rfl)) (by decide) (by decide)) (g := (mkF m 230 #[.val (.int x1), .val (.int x2), .val (.int x3), .val (.int x4), .val (.int x5), .val (.int (1 : Int32)), .val (.int (0 : Int32)), .val (.int vb7), .val (.int vb8), .val (.int vk), .val (.int vc0), .val (.int vc1), .val (.int vd0), .val (.int vd1), .val (.int vp1), .val (.int vp2), .val (.ref b101), .unset, .unset, .unset, .unset] [(.ref b115), (.ref b113), (.ref b113)])) rfl (by rw [hml]; rfl) (Steps.refl _) (a := b113) (argsL := [(.ref b115)]) (rest := [(.ref b113)]) (lenOf own_pd9 rfl) rfl (by show 2 * 0 + _ ≤ _; exact Nat.le_of_eq rfl) (hb hby at_230) (fun _ _ => ⟨rfl, e118, (by decide : 5 + 1 ≤ _), (by decide : 13 + 1 ≤ _)⟩)
      dsimp only [Pt.U, Pt.locs, Pt.cells, Pt.slots] at X120 l120 y120 z120 st120 hQ120
      subst l120 y120 z120
      obtain ⟨b120, kb120, rfl, N120q, K120, Ee120, Fc120, Fv120, VB120, sz120⟩ := hQ120
      have N120 := Fr.app N118 N120q
      have g_b120 : n0 ≤ b120 := Nat.le_trans Z119 sz120
      have ne_b101_b120 : b101 ≠ b120 := Nat.ne_of_lt (Nat.lt_of_lt_of_le Ee111.lt sz120)
      have ne_b111_b120 : b111 ≠ b120 := Nat.ne_of_lt (Nat.lt_of_lt_of_le VB111.lt sz120)
      have ne_b113_b120 : b113 ≠ b120 := Nat.ne_of_lt (Nat.lt_of_lt_of_le F_coder_b113.lt sz120)
      have ne_b115_b120 : b115 ≠ b120 := Nat.ne_of_lt (Nat.lt_of_lt_of_le V_b115.lt sz120)
      have O := O.keep K120 (allS g_b113 all0)
      have Ee111 := Ee111.keep K120
      have Fc111 := Fc111.keep K120 (ninS ne_b101_b113 nin0)
      have Fv111 := Fv111.keep K120 (ninS ne_b101_b113 nin0)
      have VB111 := VB111.keep K120 (ninS ne_b111_b113 nin0)
      have E_b113 := E_b113.keep K120
      have V_b115 := V_b115.keep K120 (ninS (Ne.symm ne_b113_b115) nin0)
      have hk := Nat.le_trans hk K120.1
      have Z121 := Nat.le_trans Z119 K120.1
      obtain ⟨T122, h122, X122, e122, E122, A122, D122, -, st122⟩ := newO X120 hx hZ hown (hw _ (List.mem_of_getElem? (i := 31) rfl)) (hw _ (List.mem_of_getElem? (i := 32) rfl)) (hw _ (List.mem_of_getElem? (i := 33) rfl)) rfl (g := (mkF m 235 #[.val (.int x1), .val (.int x2), .val (.int x3), .val (.int x4), .val (.int x5), .val (.int (1 : Int32)), .val (.int (0 : Int32)), .val (.int vb7), .val (.int vb8), .val (.int vk), .val (.int vc0), .val (.int vc1), .val (.int vd0), .val (.int vd1), .val (.int vp1), .val (.int vp2), .val (.ref b101), .val (.ref b113), .unset, .unset, .unset] [])) rfl (hb hby at_235) (by decide) (by decide)
      obtain ⟨b122, g122⟩ : ∃ z, z = T120.heap.size := ⟨_, rfl⟩
      rw [← g122] at A122 D122 st122
      have g_b122 : n0 ≤ b122 := Nat.le_trans Z121 (Nat.le_of_eq g122.symm)
      have ne_b101_b122 : b101 ≠ b122 := Nat.ne_of_lt (Nat.lt_of_lt_of_le Ee111.lt (Nat.le_of_eq g122.symm))
      have ne_b111_b122 : b111 ≠ b122 := Nat.ne_of_lt (Nat.lt_of_lt_of_le VB111.lt (Nat.le_of_eq g122.symm))
      have ne_b113_b122 : b113 ≠ b122 := Nat.ne_of_lt (Nat.lt_of_lt_of_le Ee120.lt (Nat.le_of_eq g122.symm))
      have ne_b120_b122 : b120 ≠ b122 := Nat.ne_of_lt (Nat.lt_of_lt_of_le VB120.lt (Nat.le_of_eq g122.symm))
      have O := O.ext E122
      have Ee111 := Ee111.ext E122
      have Fc111 := Fc111.ext E122
      have Fv111 := Fv111.ext E122
      have VB111 := VB111.ext E122
      have Ee120 := Ee120.ext E122
      have Fc120 := Fc120.ext E122
      have Fv120 := Fv120.ext E122
      have VB120 := VB120.ext E122
      have hk := Nat.le_trans hk E122.1
      have Z123 : n0 ≤ h122.size := Nat.le_trans Z121 E122.1
      have F_topic_b122 : Fld Z h122 b122 "com/example/vigilant_consumer/vigilantconsumer/TopicPartition" "topic" "Ljava/lang/String;" .null := D122 (Or.inr (hw _ (List.mem_of_getElem? (i := 56) rfl))) (ty := (.object "java/lang/String")) (by decide)
      have F_partition_b122 : Fld Z h122 b122 "com/example/vigilant_consumer/vigilantconsumer/TopicPartition" "partition" "I" (.int (0 : Int32)) := D122 (Or.inr (hw _ (List.mem_of_getElem? (i := 58) rfl))) (ty := .int) (by decide)
      have E_b122 := A122
      obtain ⟨_, _, ⟨T124, L124, k124, n124⟩, -, X124, hS124, hg124, ⟨Lc124, hQ124, l124, y124, z124⟩, st124⟩ := X122.specialBackS hx (y := (⟨"com/example/vigilant_consumer/vigilantconsumer/TopicPartition", "<init>", "(Ljava/lang/String;I)V"⟩ : MethodName)) rfl hown (mvT hZ (hw _ (List.mem_of_getElem? (i := 34) rfl))) (mvT hZ (hw _ (List.mem_of_getElem? (i := 35) rfl))) (mvT hZ (hw _ (List.mem_of_getElem? (i := 36) rfl))) (by decide) (backOfS (W := 1) (own_init2 l Z a0 hw [] b122 b101 vp1 b111 kb111 ((vc0).toInt8.toInt32) ((vc1).toInt8.toInt32) h122 n0 Z123 E_b122 F_topic_b122 F_partition_b122 g_b122 Ee111 Fv111 VB111 Pvp1) hZ (hw _ (List.mem_of_getElem? (i := 36) rfl)) (hw _ (List.mem_of_getElem? (i := 33) rfl)) (by decide) (by decide)) (g := (mkF m 243 #[.val (.int x1), .val (.int x2), .val (.int x3), .val (.int x4), .val (.int x5), .val (.int (1 : Int32)), .val (.int (0 : Int32)), .val (.int vb7), .val (.int vb8), .val (.int vk), .val (.int vc0), .val (.int vc1), .val (.int vd0), .val (.int vd1), .val (.int vp1), .val (.int vp2), .val (.ref b101), .val (.ref b113), .unset, .unset, .unset] [(.int vp1), (.ref b101), (.ref b122), (.ref b122)])) rfl (by rw [hml]; rfl) (Steps.refl _) (a := b122) (argsL := [(.ref b101), (.int vp1)]) (rest := [(.ref b122)]) (lenOf own_pd10 rfl) rfl (by show 2 * 0 + _ ≤ _; exact Nat.le_of_eq rfl) (hb hby at_243) (fun _ _ => ⟨rfl, e122, (by decide : 7 + 2 ≤ _), (by decide : 16 + 24 ≤ _)⟩)
      dsimp only [Pt.U, Pt.locs, Pt.cells, Pt.slots] at X124 l124 y124 z124 st124 hQ124 hS124 hg124
      subst l124 y124 z124
      obtain ⟨X124, hS, hZ, hown⟩ := rebS hS (show _ ≤ T122.heap.size by rw [e122]; exact hk) X124 hS124 hg124 hZ hown
      obtain ⟨rfl, N124q, K124, Ee124, Ft124, Fp124⟩ := hQ124
      have N124 := Fr.app N120 N124q
      have O := O.keep K124 (allS g_b122 all0)
      have Ee111 := Ee111.keep K124
      have Fc111 := Fc111.keep K124 (ninS ne_b101_b122 nin0)
      have Fv111 := Fv111.keep K124 (ninS ne_b101_b122 nin0)
      have VB111 := VB111.keep K124 (ninS ne_b111_b122 nin0)
      have Ee120 := Ee120.keep K124
      have Fc120 := Fc120.keep K124 (ninS ne_b113_b122 nin0)
      have Fv120 := Fv120.keep K124 (ninS ne_b113_b122 nin0)
      have VB120 := VB120.keep K124 (ninS ne_b120_b122 nin0)
      have E_b122 := E_b122.keep K124
      have Z125 := Nat.le_trans Z123 K124.1
      have hk := Nat.le_refl T124.heap.size
      obtain ⟨T126, h126, X126, e126, E126, A126, D126, -, st126⟩ := newO X124 hx hZ hown (hw _ (List.mem_of_getElem? (i := 31) rfl)) (hw _ (List.mem_of_getElem? (i := 32) rfl)) (hw _ (List.mem_of_getElem? (i := 33) rfl)) rfl (g := (mkF m 248 #[.val (.int x1), .val (.int x2), .val (.int x3), .val (.int x4), .val (.int x5), .val (.int (1 : Int32)), .val (.int (0 : Int32)), .val (.int vb7), .val (.int vb8), .val (.int vk), .val (.int vc0), .val (.int vc1), .val (.int vd0), .val (.int vd1), .val (.int vp1), .val (.int vp2), .val (.ref b101), .val (.ref b113), .val (.ref b122), .unset, .unset] [])) rfl (hb hby at_248) (by decide) (by decide)
      obtain ⟨b126, g126⟩ : ∃ z, z = T124.heap.size := ⟨_, rfl⟩
      rw [← g126] at A126 D126 st126
      have g_b126 : n0 ≤ b126 := Nat.le_trans Z125 (Nat.le_of_eq g126.symm)
      have ne_b101_b126 : b101 ≠ b126 := Nat.ne_of_lt (Nat.lt_of_lt_of_le Ee111.lt (Nat.le_of_eq g126.symm))
      have ne_b111_b126 : b111 ≠ b126 := Nat.ne_of_lt (Nat.lt_of_lt_of_le VB111.lt (Nat.le_of_eq g126.symm))
      have ne_b113_b126 : b113 ≠ b126 := Nat.ne_of_lt (Nat.lt_of_lt_of_le Ee120.lt (Nat.le_of_eq g126.symm))
      have ne_b120_b126 : b120 ≠ b126 := Nat.ne_of_lt (Nat.lt_of_lt_of_le VB120.lt (Nat.le_of_eq g126.symm))
      have ne_b122_b126 : b122 ≠ b126 := Nat.ne_of_lt (Nat.lt_of_lt_of_le Ee124.lt (Nat.le_of_eq g126.symm))
      have O := O.ext E126
      have Ee111 := Ee111.ext E126
      have Fc111 := Fc111.ext E126
      have Fv111 := Fv111.ext E126
      have VB111 := VB111.ext E126
      have Ee120 := Ee120.ext E126
      have Fc120 := Fc120.ext E126
      have Fv120 := Fv120.ext E126
      have VB120 := VB120.ext E126
      have Ee124 := Ee124.ext E126
      have Ft124 := Ft124.ext E126
      have Fp124 := Fp124.ext E126
      have hk := Nat.le_trans hk E126.1
      have Z127 : n0 ≤ h126.size := Nat.le_trans Z125 E126.1
      have F_topic_b126 : Fld Z h126 b126 "com/example/vigilant_consumer/vigilantconsumer/TopicPartition" "topic" "Ljava/lang/String;" .null := D126 (Or.inr (hw _ (List.mem_of_getElem? (i := 56) rfl))) (ty := (.object "java/lang/String")) (by decide)
      have F_partition_b126 : Fld Z h126 b126 "com/example/vigilant_consumer/vigilantconsumer/TopicPartition" "partition" "I" (.int (0 : Int32)) := D126 (Or.inr (hw _ (List.mem_of_getElem? (i := 58) rfl))) (ty := .int) (by decide)
      have E_b126 := A126
      obtain ⟨_, _, ⟨T128, L128, k128, n128⟩, -, X128, hS128, hg128, ⟨Lc128, hQ128, l128, y128, z128⟩, st128⟩ := X126.specialBackS hx (y := (⟨"com/example/vigilant_consumer/vigilantconsumer/TopicPartition", "<init>", "(Ljava/lang/String;I)V"⟩ : MethodName)) rfl hown (mvT hZ (hw _ (List.mem_of_getElem? (i := 34) rfl))) (mvT hZ (hw _ (List.mem_of_getElem? (i := 35) rfl))) (mvT hZ (hw _ (List.mem_of_getElem? (i := 36) rfl))) (by decide) (backOfS (W := 1) (own_init1 l Z a0 hw [] b126 b113 vp2 b120 kb120 ((vd0).toInt8.toInt32) h126 n0 Z127 E_b126 F_topic_b126 F_partition_b126 g_b126 Ee120 Fv120 VB120 Pvp2) hZ (hw _ (List.mem_of_getElem? (i := 36) rfl)) (hw _ (List.mem_of_getElem? (i := 33) rfl)) (by decide) (by decide)) (g := (mkF m 256 #[.val (.int x1), .val (.int x2), .val (.int x3), .val (.int x4), .val (.int x5), .val (.int (1 : Int32)), .val (.int (0 : Int32)), .val (.int vb7), .val (.int vb8), .val (.int vk), .val (.int vc0), .val (.int vc1), .val (.int vd0), .val (.int vd1), .val (.int vp1), .val (.int vp2), .val (.ref b101), .val (.ref b113), .val (.ref b122), .unset, .unset] [(.int vp2), (.ref b113), (.ref b126), (.ref b126)])) rfl (by rw [hml]; rfl) (Steps.refl _) (a := b126) (argsL := [(.ref b113), (.int vp2)]) (rest := [(.ref b126)]) (lenOf own_pd10 rfl) rfl (by show 2 * 0 + _ ≤ _; exact Nat.le_of_eq rfl) (hb hby at_256) (fun _ _ => ⟨rfl, e126, (by decide : 10 + 2 ≤ _), (by decide : 42 + 24 ≤ _)⟩)
      dsimp only [Pt.U, Pt.locs, Pt.cells, Pt.slots] at X128 l128 y128 z128 st128 hQ128 hS128 hg128
      subst l128 y128 z128
      obtain ⟨X128, hS, hZ, hown⟩ := rebS hS (show _ ≤ T126.heap.size by rw [e126]; exact hk) X128 hS128 hg128 hZ hown
      obtain ⟨rfl, N128q, K128, Ee128, Ft128, Fp128⟩ := hQ128
      have N128 := Fr.app N124 N128q
      have O := O.keep K128 (allS g_b126 all0)
      have Ee111 := Ee111.keep K128
      have Fc111 := Fc111.keep K128 (ninS ne_b101_b126 nin0)
      have Fv111 := Fv111.keep K128 (ninS ne_b101_b126 nin0)
      have VB111 := VB111.keep K128 (ninS ne_b111_b126 nin0)
      have Ee120 := Ee120.keep K128
      have Fc120 := Fc120.keep K128 (ninS ne_b113_b126 nin0)
      have Fv120 := Fv120.keep K128 (ninS ne_b113_b126 nin0)
      have VB120 := VB120.keep K128 (ninS ne_b120_b126 nin0)
      have Ee124 := Ee124.keep K128
      have Ft124 := Ft124.keep K128 (ninS ne_b122_b126 nin0)
      have Fp124 := Fp124.keep K128 (ninS ne_b122_b126 nin0)
      have E_b126 := E_b126.keep K128
      have Z129 := Nat.le_trans Z127 K128.1
      have hk := Nat.le_refl T128.heap.size
      have pre130 : ∀ t, Steps p.tables e below (T128.setTop (mkF m 264 #[.val (.int x1), .val (.int x2), .val (.int x3), .val (.int x4), .val (.int x5), .val (.int (1 : Int32)), .val (.int (0 : Int32)), .val (.int vb7), .val (.int vb8), .val (.int vk), .val (.int vc0), .val (.int vc1), .val (.int vd0), .val (.int vd1), .val (.int vp1), .val (.int vp2), .val (.ref b101), .val (.ref b113), .val (.ref b122), .val (.ref b126), .unset] [(.int (1 : Int32)), (.int vk)])) t → Steps p.tables e below (s₁.setTop (entryFrame m #[(.int x1), (.int x2), (.int x3), (.int x4), (.int x5)] maxLocals)) t := fun t k => pre15 t (by
        show Steps p.tables e below (s₁.setTop (mkF m 145 #[.val (.int x1), .val (.int x2), .val (.int x3), .val (.int x4), .val (.int x5), .val (.int vb5), .val (.int vb6), .val (.int vb7), .val (.int vb8), .val (.int vk), .val (.int vc0), .val (.int vc1), .val (.int vd0), .val (.int vd1), .val (.int vp1), .val (.int vp2), .unset, .unset, .unset, .unset, .unset] [])) _
        rw [one_vb5]
        show Steps p.tables e below (s₁.setTop (mkF m 145 #[.val (.int x1), .val (.int x2), .val (.int x3), .val (.int x4), .val (.int x5), .val (.int (1 : Int32)), .val (.int vb6), .val (.int vb7), .val (.int vb8), .val (.int vk), .val (.int vc0), .val (.int vc1), .val (.int vd0), .val (.int vd1), .val (.int vp1), .val (.int vp2), .unset, .unset, .unset, .unset, .unset] [])) _
        rw [hc100]
        show Steps p.tables e below (s₁.setTop (mkF m 145 #[.val (.int x1), .val (.int x2), .val (.int x3), .val (.int x4), .val (.int x5), .val (.int (1 : Int32)), .val (.int (0 : Int32)), .val (.int vb7), .val (.int vb8), .val (.int vk), .val (.int vc0), .val (.int vc1), .val (.int vd0), .val (.int vd1), .val (.int vp1), .val (.int vp2), .unset, .unset, .unset, .unset, .unset] [])) _
        refine XS.iload X0.here hx rfl (hb hby at_145) rfl ?_
        show Steps p.tables e below (s₁.setTop (mkF m 147 #[.val (.int x1), .val (.int x2), .val (.int x3), .val (.int x4), .val (.int x5), .val (.int (1 : Int32)), .val (.int (0 : Int32)), .val (.int vb7), .val (.int vb8), .val (.int vk), .val (.int vc0), .val (.int vc1), .val (.int vd0), .val (.int vd1), .val (.int vp1), .val (.int vp2), .unset, .unset, .unset, .unset, .unset] [(.int (1 : Int32))])) _
        refine XS.ifNo X0.here hx rfl (hb hby at_147) rfl ((if0 _ _).trans (feq (by decide : ¬ ((1 : Int32) = (0 : Int32)))).1) ?_
        show Steps p.tables e below (s₁.setTop (mkF m 150 #[.val (.int x1), .val (.int x2), .val (.int x3), .val (.int x4), .val (.int x5), .val (.int (1 : Int32)), .val (.int (0 : Int32)), .val (.int vb7), .val (.int vb8), .val (.int vk), .val (.int vc0), .val (.int vc1), .val (.int vd0), .val (.int vd1), .val (.int vp1), .val (.int vp2), .unset, .unset, .unset, .unset, .unset] [])) _
        refine st101 _ ?_
        show Steps p.tables e below (T101.setTop (mkF m 153 #[.val (.int x1), .val (.int x2), .val (.int x3), .val (.int x4), .val (.int x5), .val (.int (1 : Int32)), .val (.int (0 : Int32)), .val (.int vb7), .val (.int vb8), .val (.int vk), .val (.int vc0), .val (.int vc1), .val (.int vd0), .val (.int vd1), .val (.int vp1), .val (.int vp2), .unset, .unset, .unset, .unset, .unset] [(.ref b101)])) _
        refine XS.dup X101.here hx rfl (hb hby at_153) rfl rfl ?_
        show Steps p.tables e below (T101.setTop (mkF m 154 #[.val (.int x1), .val (.int x2), .val (.int x3), .val (.int x4), .val (.int x5), .val (.int (1 : Int32)), .val (.int (0 : Int32)), .val (.int vb7), .val (.int vb8), .val (.int vk), .val (.int vc0), .val (.int vc1), .val (.int vd0), .val (.int vd1), .val (.int vp1), .val (.int vp2), .unset, .unset, .unset, .unset, .unset] [(.ref b101), (.ref b101)])) _
        refine XS.iconst X101.here hx rfl (hb hby at_154) ?_
        show Steps p.tables e below (T101.setTop (mkF m 155 #[.val (.int x1), .val (.int x2), .val (.int x3), .val (.int x4), .val (.int x5), .val (.int (1 : Int32)), .val (.int (0 : Int32)), .val (.int vb7), .val (.int vb8), .val (.int vk), .val (.int vc0), .val (.int vc1), .val (.int vd0), .val (.int vd1), .val (.int vp1), .val (.int vp2), .unset, .unset, .unset, .unset, .unset] [(.int (2 : Int32)), (.ref b101), (.ref b101)])) _
        refine st103 _ ?_
        show Steps p.tables e below (T103.setTop (mkF m 157 #[.val (.int x1), .val (.int x2), .val (.int x3), .val (.int x4), .val (.int x5), .val (.int (1 : Int32)), .val (.int (0 : Int32)), .val (.int vb7), .val (.int vb8), .val (.int vk), .val (.int vc0), .val (.int vc1), .val (.int vd0), .val (.int vd1), .val (.int vp1), .val (.int vp2), .unset, .unset, .unset, .unset, .unset] [(.ref b103), (.ref b101), (.ref b101)])) _
        refine XS.dup X103.here hx rfl (hb hby at_157) rfl rfl ?_
        show Steps p.tables e below (T103.setTop (mkF m 158 #[.val (.int x1), .val (.int x2), .val (.int x3), .val (.int x4), .val (.int x5), .val (.int (1 : Int32)), .val (.int (0 : Int32)), .val (.int vb7), .val (.int vb8), .val (.int vk), .val (.int vc0), .val (.int vc1), .val (.int vd0), .val (.int vd1), .val (.int vp1), .val (.int vp2), .unset, .unset, .unset, .unset, .unset] [(.ref b103), (.ref b103), (.ref b101), (.ref b101)])) _
        refine XS.iconst X103.here hx rfl (hb hby at_158) ?_
        show Steps p.tables e below (T103.setTop (mkF m 159 #[.val (.int x1), .val (.int x2), .val (.int x3), .val (.int x4), .val (.int x5), .val (.int (1 : Int32)), .val (.int (0 : Int32)), .val (.int vb7), .val (.int vb8), .val (.int vk), .val (.int vc0), .val (.int vc1), .val (.int vd0), .val (.int vd1), .val (.int vp1), .val (.int vp2), .unset, .unset, .unset, .unset, .unset] [(.int (0 : Int32)), (.ref b103), (.ref b103), (.ref b101), (.ref b101)])) _
        refine XS.iload X103.here hx rfl (hb hby at_159) rfl ?_
        show Steps p.tables e below (T103.setTop (mkF m 161 #[.val (.int x1), .val (.int x2), .val (.int x3), .val (.int x4), .val (.int x5), .val (.int (1 : Int32)), .val (.int (0 : Int32)), .val (.int vb7), .val (.int vb8), .val (.int vk), .val (.int vc0), .val (.int vc1), .val (.int vd0), .val (.int vd1), .val (.int vp1), .val (.int vp2), .unset, .unset, .unset, .unset, .unset] [(.int vc0), (.int (0 : Int32)), (.ref b103), (.ref b103), (.ref b101), (.ref b101)])) _
        refine st106 _ ?_
        show Steps p.tables e below (T106.setTop (mkF m 162 #[.val (.int x1), .val (.int x2), .val (.int x3), .val (.int x4), .val (.int x5), .val (.int (1 : Int32)), .val (.int (0 : Int32)), .val (.int vb7), .val (.int vb8), .val (.int vk), .val (.int vc0), .val (.int vc1), .val (.int vd0), .val (.int vd1), .val (.int vp1), .val (.int vp2), .unset, .unset, .unset, .unset, .unset] [(.ref b103), (.ref b101), (.ref b101)])) _
        refine XS.dup X106.here hx rfl (hb hby at_162) rfl rfl ?_
        show Steps p.tables e below (T106.setTop (mkF m 163 #[.val (.int x1), .val (.int x2), .val (.int x3), .val (.int x4), .val (.int x5), .val (.int (1 : Int32)), .val (.int (0 : Int32)), .val (.int vb7), .val (.int vb8), .val (.int vk), .val (.int vc0), .val (.int vc1), .val (.int vd0), .val (.int vd1), .val (.int vp1), .val (.int vp2), .unset, .unset, .unset, .unset, .unset] [(.ref b103), (.ref b103), (.ref b101), (.ref b101)])) _
        refine XS.iconst X106.here hx rfl (hb hby at_163) ?_
        show Steps p.tables e below (T106.setTop (mkF m 164 #[.val (.int x1), .val (.int x2), .val (.int x3), .val (.int x4), .val (.int x5), .val (.int (1 : Int32)), .val (.int (0 : Int32)), .val (.int vb7), .val (.int vb8), .val (.int vk), .val (.int vc0), .val (.int vc1), .val (.int vd0), .val (.int vd1), .val (.int vp1), .val (.int vp2), .unset, .unset, .unset, .unset, .unset] [(.int (1 : Int32)), (.ref b103), (.ref b103), (.ref b101), (.ref b101)])) _
        refine XS.iload X106.here hx rfl (hb hby at_164) rfl ?_
        show Steps p.tables e below (T106.setTop (mkF m 166 #[.val (.int x1), .val (.int x2), .val (.int x3), .val (.int x4), .val (.int x5), .val (.int (1 : Int32)), .val (.int (0 : Int32)), .val (.int vb7), .val (.int vb8), .val (.int vk), .val (.int vc0), .val (.int vc1), .val (.int vd0), .val (.int vd1), .val (.int vp1), .val (.int vp2), .unset, .unset, .unset, .unset, .unset] [(.int vc1), (.int (1 : Int32)), (.ref b103), (.ref b103), (.ref b101), (.ref b101)])) _
        refine st109 _ ?_
        show Steps p.tables e below (T109.setTop (mkF m 167 #[.val (.int x1), .val (.int x2), .val (.int x3), .val (.int x4), .val (.int x5), .val (.int (1 : Int32)), .val (.int (0 : Int32)), .val (.int vb7), .val (.int vb8), .val (.int vk), .val (.int vc0), .val (.int vc1), .val (.int vd0), .val (.int vd1), .val (.int vp1), .val (.int vp2), .unset, .unset, .unset, .unset, .unset] [(.ref b103), (.ref b101), (.ref b101)])) _
        refine st111.trans ?_
        show Steps p.tables e below (T111.setTop (mkF m 170 #[.val (.int x1), .val (.int x2), .val (.int x3), .val (.int x4), .val (.int x5), .val (.int (1 : Int32)), .val (.int (0 : Int32)), .val (.int vb7), .val (.int vb8), .val (.int vk), .val (.int vc0), .val (.int vc1), .val (.int vd0), .val (.int vd1), .val (.int vp1), .val (.int vp2), .unset, .unset, .unset, .unset, .unset] [(.ref b101)])) _
        refine XS.goto X111.here hx rfl (pc0 := 170) (pc' := 188) rfl (hb hby at_170) (by decide) (by decide) ?_
        show Steps p.tables e below (T111.setTop (mkF m 188 #[.val (.int x1), .val (.int x2), .val (.int x3), .val (.int x4), .val (.int x5), .val (.int (1 : Int32)), .val (.int (0 : Int32)), .val (.int vb7), .val (.int vb8), .val (.int vk), .val (.int vc0), .val (.int vc1), .val (.int vd0), .val (.int vd1), .val (.int vp1), .val (.int vp2), .unset, .unset, .unset, .unset, .unset] [(.ref b101)])) _
        refine XS.astore X111.here hx rfl (hb hby at_188) rfl rfl (l' := #[.val (.int x1), .val (.int x2), .val (.int x3), .val (.int x4), .val (.int x5), .val (.int (1 : Int32)), .val (.int (0 : Int32)), .val (.int vb7), .val (.int vb8), .val (.int vk), .val (.int vc0), .val (.int vc1), .val (.int vd0), .val (.int vd1), .val (.int vp1), .val (.int vp2), .val (.ref b101), .unset, .unset, .unset, .unset]) rfl ?_
        show Steps p.tables e below (T111.setTop (mkF m 190 #[.val (.int x1), .val (.int x2), .val (.int x3), .val (.int x4), .val (.int x5), .val (.int (1 : Int32)), .val (.int (0 : Int32)), .val (.int vb7), .val (.int vb8), .val (.int vk), .val (.int vc0), .val (.int vc1), .val (.int vd0), .val (.int vd1), .val (.int vp1), .val (.int vp2), .val (.ref b101), .unset, .unset, .unset, .unset] [])) _
        refine XS.iload X111.here hx rfl (hb hby at_190) rfl ?_
        show Steps p.tables e below (T111.setTop (mkF m 192 #[.val (.int x1), .val (.int x2), .val (.int x3), .val (.int x4), .val (.int x5), .val (.int (1 : Int32)), .val (.int (0 : Int32)), .val (.int vb7), .val (.int vb8), .val (.int vk), .val (.int vc0), .val (.int vc1), .val (.int vd0), .val (.int vd1), .val (.int vp1), .val (.int vp2), .val (.ref b101), .unset, .unset, .unset, .unset] [(.int (0 : Int32))])) _
        refine XS.ifYes X111.here hx rfl (pc0 := 192) (pc' := 218) rfl (hb hby at_192) rfl ((if0 _ _).trans (teq (by decide : (0 : Int32) = (0 : Int32))).1) (by decide) (by decide) ?_
        show Steps p.tables e below (T111.setTop (mkF m 218 #[.val (.int x1), .val (.int x2), .val (.int x3), .val (.int x4), .val (.int x5), .val (.int (1 : Int32)), .val (.int (0 : Int32)), .val (.int vb7), .val (.int vb8), .val (.int vk), .val (.int vc0), .val (.int vc1), .val (.int vd0), .val (.int vd1), .val (.int vp1), .val (.int vp2), .val (.ref b101), .unset, .unset, .unset, .unset] [])) _
        refine st113 _ ?_
        show Steps p.tables e below (T113.setTop (mkF m 221 #[.val (.int x1), .val (.int x2), .val (.int x3), .val (.int x4), .val (.int x5), .val (.int (1 : Int32)), .val (.int (0 : Int32)), .val (.int vb7), .val (.int vb8), .val (.int vk), .val (.int vc0), .val (.int vc1), .val (.int vd0), .val (.int vd1), .val (.int vp1), .val (.int vp2), .val (.ref b101), .unset, .unset, .unset, .unset] [(.ref b113)])) _
        refine XS.dup X113.here hx rfl (hb hby at_221) rfl rfl ?_
        show Steps p.tables e below (T113.setTop (mkF m 222 #[.val (.int x1), .val (.int x2), .val (.int x3), .val (.int x4), .val (.int x5), .val (.int (1 : Int32)), .val (.int (0 : Int32)), .val (.int vb7), .val (.int vb8), .val (.int vk), .val (.int vc0), .val (.int vc1), .val (.int vd0), .val (.int vd1), .val (.int vp1), .val (.int vp2), .val (.ref b101), .unset, .unset, .unset, .unset] [(.ref b113), (.ref b113)])) _
        refine XS.iconst X113.here hx rfl (hb hby at_222) ?_
        show Steps p.tables e below (T113.setTop (mkF m 223 #[.val (.int x1), .val (.int x2), .val (.int x3), .val (.int x4), .val (.int x5), .val (.int (1 : Int32)), .val (.int (0 : Int32)), .val (.int vb7), .val (.int vb8), .val (.int vk), .val (.int vc0), .val (.int vc1), .val (.int vd0), .val (.int vd1), .val (.int vp1), .val (.int vp2), .val (.ref b101), .unset, .unset, .unset, .unset] [(.int (1 : Int32)), (.ref b113), (.ref b113)])) _
        refine st115 _ ?_
        show Steps p.tables e below (T115.setTop (mkF m 225 #[.val (.int x1), .val (.int x2), .val (.int x3), .val (.int x4), .val (.int x5), .val (.int (1 : Int32)), .val (.int (0 : Int32)), .val (.int vb7), .val (.int vb8), .val (.int vk), .val (.int vc0), .val (.int vc1), .val (.int vd0), .val (.int vd1), .val (.int vp1), .val (.int vp2), .val (.ref b101), .unset, .unset, .unset, .unset] [(.ref b115), (.ref b113), (.ref b113)])) _
        refine XS.dup X115.here hx rfl (hb hby at_225) rfl rfl ?_
        show Steps p.tables e below (T115.setTop (mkF m 226 #[.val (.int x1), .val (.int x2), .val (.int x3), .val (.int x4), .val (.int x5), .val (.int (1 : Int32)), .val (.int (0 : Int32)), .val (.int vb7), .val (.int vb8), .val (.int vk), .val (.int vc0), .val (.int vc1), .val (.int vd0), .val (.int vd1), .val (.int vp1), .val (.int vp2), .val (.ref b101), .unset, .unset, .unset, .unset] [(.ref b115), (.ref b115), (.ref b113), (.ref b113)])) _
        refine XS.iconst X115.here hx rfl (hb hby at_226) ?_
        show Steps p.tables e below (T115.setTop (mkF m 227 #[.val (.int x1), .val (.int x2), .val (.int x3), .val (.int x4), .val (.int x5), .val (.int (1 : Int32)), .val (.int (0 : Int32)), .val (.int vb7), .val (.int vb8), .val (.int vk), .val (.int vc0), .val (.int vc1), .val (.int vd0), .val (.int vd1), .val (.int vp1), .val (.int vp2), .val (.ref b101), .unset, .unset, .unset, .unset] [(.int (0 : Int32)), (.ref b115), (.ref b115), (.ref b113), (.ref b113)])) _
        refine XS.iload X115.here hx rfl (hb hby at_227) rfl ?_
        show Steps p.tables e below (T115.setTop (mkF m 229 #[.val (.int x1), .val (.int x2), .val (.int x3), .val (.int x4), .val (.int x5), .val (.int (1 : Int32)), .val (.int (0 : Int32)), .val (.int vb7), .val (.int vb8), .val (.int vk), .val (.int vc0), .val (.int vc1), .val (.int vd0), .val (.int vd1), .val (.int vp1), .val (.int vp2), .val (.ref b101), .unset, .unset, .unset, .unset] [(.int vd0), (.int (0 : Int32)), (.ref b115), (.ref b115), (.ref b113), (.ref b113)])) _
        refine st118 _ ?_
        show Steps p.tables e below (T118.setTop (mkF m 230 #[.val (.int x1), .val (.int x2), .val (.int x3), .val (.int x4), .val (.int x5), .val (.int (1 : Int32)), .val (.int (0 : Int32)), .val (.int vb7), .val (.int vb8), .val (.int vk), .val (.int vc0), .val (.int vc1), .val (.int vd0), .val (.int vd1), .val (.int vp1), .val (.int vp2), .val (.ref b101), .unset, .unset, .unset, .unset] [(.ref b115), (.ref b113), (.ref b113)])) _
        refine st120.trans ?_
        show Steps p.tables e below (T120.setTop (mkF m 233 #[.val (.int x1), .val (.int x2), .val (.int x3), .val (.int x4), .val (.int x5), .val (.int (1 : Int32)), .val (.int (0 : Int32)), .val (.int vb7), .val (.int vb8), .val (.int vk), .val (.int vc0), .val (.int vc1), .val (.int vd0), .val (.int vd1), .val (.int vp1), .val (.int vp2), .val (.ref b101), .unset, .unset, .unset, .unset] [(.ref b113)])) _
        refine XS.astore X120.here hx rfl (hb hby at_233) rfl rfl (l' := #[.val (.int x1), .val (.int x2), .val (.int x3), .val (.int x4), .val (.int x5), .val (.int (1 : Int32)), .val (.int (0 : Int32)), .val (.int vb7), .val (.int vb8), .val (.int vk), .val (.int vc0), .val (.int vc1), .val (.int vd0), .val (.int vd1), .val (.int vp1), .val (.int vp2), .val (.ref b101), .val (.ref b113), .unset, .unset, .unset]) rfl ?_
        show Steps p.tables e below (T120.setTop (mkF m 235 #[.val (.int x1), .val (.int x2), .val (.int x3), .val (.int x4), .val (.int x5), .val (.int (1 : Int32)), .val (.int (0 : Int32)), .val (.int vb7), .val (.int vb8), .val (.int vk), .val (.int vc0), .val (.int vc1), .val (.int vd0), .val (.int vd1), .val (.int vp1), .val (.int vp2), .val (.ref b101), .val (.ref b113), .unset, .unset, .unset] [])) _
        refine st122 _ ?_
        show Steps p.tables e below (T122.setTop (mkF m 238 #[.val (.int x1), .val (.int x2), .val (.int x3), .val (.int x4), .val (.int x5), .val (.int (1 : Int32)), .val (.int (0 : Int32)), .val (.int vb7), .val (.int vb8), .val (.int vk), .val (.int vc0), .val (.int vc1), .val (.int vd0), .val (.int vd1), .val (.int vp1), .val (.int vp2), .val (.ref b101), .val (.ref b113), .unset, .unset, .unset] [(.ref b122)])) _
        refine XS.dup X122.here hx rfl (hb hby at_238) rfl rfl ?_
        show Steps p.tables e below (T122.setTop (mkF m 239 #[.val (.int x1), .val (.int x2), .val (.int x3), .val (.int x4), .val (.int x5), .val (.int (1 : Int32)), .val (.int (0 : Int32)), .val (.int vb7), .val (.int vb8), .val (.int vk), .val (.int vc0), .val (.int vc1), .val (.int vd0), .val (.int vd1), .val (.int vp1), .val (.int vp2), .val (.ref b101), .val (.ref b113), .unset, .unset, .unset] [(.ref b122), (.ref b122)])) _
        refine XS.aload X122.here hx rfl (hb hby at_239) rfl rfl ?_
        show Steps p.tables e below (T122.setTop (mkF m 241 #[.val (.int x1), .val (.int x2), .val (.int x3), .val (.int x4), .val (.int x5), .val (.int (1 : Int32)), .val (.int (0 : Int32)), .val (.int vb7), .val (.int vb8), .val (.int vk), .val (.int vc0), .val (.int vc1), .val (.int vd0), .val (.int vd1), .val (.int vp1), .val (.int vp2), .val (.ref b101), .val (.ref b113), .unset, .unset, .unset] [(.ref b101), (.ref b122), (.ref b122)])) _
        refine XS.iload X122.here hx rfl (hb hby at_241) rfl ?_
        show Steps p.tables e below (T122.setTop (mkF m 243 #[.val (.int x1), .val (.int x2), .val (.int x3), .val (.int x4), .val (.int x5), .val (.int (1 : Int32)), .val (.int (0 : Int32)), .val (.int vb7), .val (.int vb8), .val (.int vk), .val (.int vc0), .val (.int vc1), .val (.int vd0), .val (.int vd1), .val (.int vp1), .val (.int vp2), .val (.ref b101), .val (.ref b113), .unset, .unset, .unset] [(.int vp1), (.ref b101), (.ref b122), (.ref b122)])) _
        refine st124.trans ?_
        show Steps p.tables e below (T124.setTop (mkF m 246 #[.val (.int x1), .val (.int x2), .val (.int x3), .val (.int x4), .val (.int x5), .val (.int (1 : Int32)), .val (.int (0 : Int32)), .val (.int vb7), .val (.int vb8), .val (.int vk), .val (.int vc0), .val (.int vc1), .val (.int vd0), .val (.int vd1), .val (.int vp1), .val (.int vp2), .val (.ref b101), .val (.ref b113), .unset, .unset, .unset] [(.ref b122)])) _
        refine XS.astore X124.here hx rfl (hb hby at_246) rfl rfl (l' := #[.val (.int x1), .val (.int x2), .val (.int x3), .val (.int x4), .val (.int x5), .val (.int (1 : Int32)), .val (.int (0 : Int32)), .val (.int vb7), .val (.int vb8), .val (.int vk), .val (.int vc0), .val (.int vc1), .val (.int vd0), .val (.int vd1), .val (.int vp1), .val (.int vp2), .val (.ref b101), .val (.ref b113), .val (.ref b122), .unset, .unset]) rfl ?_
        show Steps p.tables e below (T124.setTop (mkF m 248 #[.val (.int x1), .val (.int x2), .val (.int x3), .val (.int x4), .val (.int x5), .val (.int (1 : Int32)), .val (.int (0 : Int32)), .val (.int vb7), .val (.int vb8), .val (.int vk), .val (.int vc0), .val (.int vc1), .val (.int vd0), .val (.int vd1), .val (.int vp1), .val (.int vp2), .val (.ref b101), .val (.ref b113), .val (.ref b122), .unset, .unset] [])) _
        refine st126 _ ?_
        show Steps p.tables e below (T126.setTop (mkF m 251 #[.val (.int x1), .val (.int x2), .val (.int x3), .val (.int x4), .val (.int x5), .val (.int (1 : Int32)), .val (.int (0 : Int32)), .val (.int vb7), .val (.int vb8), .val (.int vk), .val (.int vc0), .val (.int vc1), .val (.int vd0), .val (.int vd1), .val (.int vp1), .val (.int vp2), .val (.ref b101), .val (.ref b113), .val (.ref b122), .unset, .unset] [(.ref b126)])) _
        refine XS.dup X126.here hx rfl (hb hby at_251) rfl rfl ?_
        show Steps p.tables e below (T126.setTop (mkF m 252 #[.val (.int x1), .val (.int x2), .val (.int x3), .val (.int x4), .val (.int x5), .val (.int (1 : Int32)), .val (.int (0 : Int32)), .val (.int vb7), .val (.int vb8), .val (.int vk), .val (.int vc0), .val (.int vc1), .val (.int vd0), .val (.int vd1), .val (.int vp1), .val (.int vp2), .val (.ref b101), .val (.ref b113), .val (.ref b122), .unset, .unset] [(.ref b126), (.ref b126)])) _
        refine XS.aload X126.here hx rfl (hb hby at_252) rfl rfl ?_
        show Steps p.tables e below (T126.setTop (mkF m 254 #[.val (.int x1), .val (.int x2), .val (.int x3), .val (.int x4), .val (.int x5), .val (.int (1 : Int32)), .val (.int (0 : Int32)), .val (.int vb7), .val (.int vb8), .val (.int vk), .val (.int vc0), .val (.int vc1), .val (.int vd0), .val (.int vd1), .val (.int vp1), .val (.int vp2), .val (.ref b101), .val (.ref b113), .val (.ref b122), .unset, .unset] [(.ref b113), (.ref b126), (.ref b126)])) _
        refine XS.iload X126.here hx rfl (hb hby at_254) rfl ?_
        show Steps p.tables e below (T126.setTop (mkF m 256 #[.val (.int x1), .val (.int x2), .val (.int x3), .val (.int x4), .val (.int x5), .val (.int (1 : Int32)), .val (.int (0 : Int32)), .val (.int vb7), .val (.int vb8), .val (.int vk), .val (.int vc0), .val (.int vc1), .val (.int vd0), .val (.int vd1), .val (.int vp1), .val (.int vp2), .val (.ref b101), .val (.ref b113), .val (.ref b122), .unset, .unset] [(.int vp2), (.ref b113), (.ref b126), (.ref b126)])) _
        refine st128.trans ?_
        show Steps p.tables e below (T128.setTop (mkF m 259 #[.val (.int x1), .val (.int x2), .val (.int x3), .val (.int x4), .val (.int x5), .val (.int (1 : Int32)), .val (.int (0 : Int32)), .val (.int vb7), .val (.int vb8), .val (.int vk), .val (.int vc0), .val (.int vc1), .val (.int vd0), .val (.int vd1), .val (.int vp1), .val (.int vp2), .val (.ref b101), .val (.ref b113), .val (.ref b122), .unset, .unset] [(.ref b126)])) _
        refine XS.astore X128.here hx rfl (hb hby at_259) rfl rfl (l' := #[.val (.int x1), .val (.int x2), .val (.int x3), .val (.int x4), .val (.int x5), .val (.int (1 : Int32)), .val (.int (0 : Int32)), .val (.int vb7), .val (.int vb8), .val (.int vk), .val (.int vc0), .val (.int vc1), .val (.int vd0), .val (.int vd1), .val (.int vp1), .val (.int vp2), .val (.ref b101), .val (.ref b113), .val (.ref b122), .val (.ref b126), .unset]) rfl ?_
        show Steps p.tables e below (T128.setTop (mkF m 261 #[.val (.int x1), .val (.int x2), .val (.int x3), .val (.int x4), .val (.int x5), .val (.int (1 : Int32)), .val (.int (0 : Int32)), .val (.int vb7), .val (.int vb8), .val (.int vk), .val (.int vc0), .val (.int vc1), .val (.int vd0), .val (.int vd1), .val (.int vp1), .val (.int vp2), .val (.ref b101), .val (.ref b113), .val (.ref b122), .val (.ref b126), .unset] [])) _
        refine XS.iload X128.here hx rfl (hb hby at_261) rfl ?_
        show Steps p.tables e below (T128.setTop (mkF m 263 #[.val (.int x1), .val (.int x2), .val (.int x3), .val (.int x4), .val (.int x5), .val (.int (1 : Int32)), .val (.int (0 : Int32)), .val (.int vb7), .val (.int vb8), .val (.int vk), .val (.int vc0), .val (.int vc1), .val (.int vd0), .val (.int vd1), .val (.int vp1), .val (.int vp2), .val (.ref b101), .val (.ref b113), .val (.ref b122), .val (.ref b126), .unset] [(.int vk)])) _
        refine XS.iconst X128.here hx rfl (hb hby at_263) ?_
        show Steps p.tables e below (T128.setTop (mkF m 264 #[.val (.int x1), .val (.int x2), .val (.int x3), .val (.int x4), .val (.int x5), .val (.int (1 : Int32)), .val (.int (0 : Int32)), .val (.int vb7), .val (.int vb8), .val (.int vk), .val (.int vc0), .val (.int vc1), .val (.int vd0), .val (.int vd1), .val (.int vp1), .val (.int vp2), .val (.ref b101), .val (.ref b113), .val (.ref b122), .val (.ref b126), .unset] [(.int (1 : Int32)), (.int vk)])) _
        exact k)
      by_cases hc131 : vk = (1 : Int32)
      · skip
        obtain ⟨cq132, kq132, q132a, q132b, q132c⟩ := isOf hZ rfl Ee124
        obtain ⟨_, _, ⟨T132, L132, k132, n132⟩, -, X132, ⟨Lc132, hQ132, l132, y132, z132⟩, st132⟩ := X128.virtualBack hx (y := (⟨"com/example/vigilant_consumer/vigilantconsumer/TopicPartition", "equals", "(Ljava/lang/Object;)Z"⟩ : MethodName)) (z := (⟨"com/example/vigilant_consumer/vigilantconsumer/TopicPartition", "equals", "(Ljava/lang/Object;)Z"⟩ : MethodName)) hown (mvT hZ (hw _ (List.mem_of_getElem? (i := 59) rfl))) (mvT hZ (hw _ (List.mem_of_getElem? (i := 60) rfl))) (notFace_of_selects (args := #[]) (mvT hZ (hw _ (List.mem_of_getElem? (i := 62) rfl)))) (mvT hZ (hw _ (List.mem_of_getElem? (i := 62) rfl))) (mvT hZ (hw _ (List.mem_of_getElem? (i := 61) rfl))) (by decide) (backOf (W := 0) (own_teqN l Z a0 hw [] b122  T128.heap n0 Z129 ) hZ (hw _ (List.mem_of_getElem? (i := 63) rfl)) (hw _ (List.mem_of_getElem? (i := 33) rfl)) (by decide) (by decide)) q132a q132c (g := (mkF m 270 #[.val (.int x1), .val (.int x2), .val (.int x3), .val (.int x4), .val (.int x5), .val (.int (1 : Int32)), .val (.int (0 : Int32)), .val (.int vb7), .val (.int vb8), .val (.int vk), .val (.int vc0), .val (.int vc1), .val (.int vd0), .val (.int vd1), .val (.int vp1), .val (.int vp2), .val (.ref b101), .val (.ref b113), .val (.ref b122), .val (.ref b126), .unset] [.null, (.ref b122)])) rfl (by rw [hml]; rfl) (Steps.refl _) (argsL := [.null]) (rest := []) (lenOf own_pd8 rfl) rfl (by show 2 * 0 + _ ≤ _; exact Nat.le_of_eq rfl) (hb hby at_270) (fun _ _ => ⟨rfl, rfl, (by decide : 12 + 0 ≤ _), (by decide : 66 + 0 ≤ _)⟩)
        dsimp only [Pt.U, Pt.locs, Pt.cells, Pt.slots] at X132 l132 y132 z132 st132 hQ132
        subst l132 y132 z132
        obtain ⟨rfl, N132q, e132⟩ := hQ132
        have N132 := Fr.app N128 N132q
        obtain ⟨fs, hr, hrun, hended, hRW⟩ := X132.leaveW hS (by rw [e132]; exact hk) (v := some (.int (1 : Int32))) (fun h => by rw [Bd.returns] at h; cases h)
        refine ⟨_, _, pre130 _ ?_, hrun, hended, _, _, rfl, ?_, hRW.1, hRW.2.1, hRW.2.2.1, hRW.2.2.2.mono (by decide) (by decide)⟩
        · refine XS.icmpNo X128.here hx rfl (hb hby at_264) rfl (teq hc131).2 ?_
          show Steps p.tables e below (T128.setTop (mkF m 267 #[.val (.int x1), .val (.int x2), .val (.int x3), .val (.int x4), .val (.int x5), .val (.int (1 : Int32)), .val (.int (0 : Int32)), .val (.int vb7), .val (.int vb8), .val (.int vk), .val (.int vc0), .val (.int vc1), .val (.int vd0), .val (.int vd1), .val (.int vp1), .val (.int vp2), .val (.ref b101), .val (.ref b113), .val (.ref b122), .val (.ref b126), .unset] [])) _
          refine XS.aload X128.here hx rfl (hb hby at_267) rfl rfl ?_
          show Steps p.tables e below (T128.setTop (mkF m 269 #[.val (.int x1), .val (.int x2), .val (.int x3), .val (.int x4), .val (.int x5), .val (.int (1 : Int32)), .val (.int (0 : Int32)), .val (.int vb7), .val (.int vb8), .val (.int vk), .val (.int vc0), .val (.int vc1), .val (.int vd0), .val (.int vd1), .val (.int vp1), .val (.int vp2), .val (.ref b101), .val (.ref b113), .val (.ref b122), .val (.ref b126), .unset] [(.ref b122)])) _
          refine XS.aconstNull X128.here hx rfl (hb hby at_269) ?_
          show Steps p.tables e below (T128.setTop (mkF m 270 #[.val (.int x1), .val (.int x2), .val (.int x3), .val (.int x4), .val (.int x5), .val (.int (1 : Int32)), .val (.int (0 : Int32)), .val (.int vb7), .val (.int vb8), .val (.int vk), .val (.int vc0), .val (.int vc1), .val (.int vd0), .val (.int vd1), .val (.int vp1), .val (.int vp2), .val (.ref b101), .val (.ref b113), .val (.ref b122), .val (.ref b126), .unset] [.null, (.ref b122)])) _
          refine st132.trans ?_
          show Steps p.tables e below (T132.setTop (mkF m 273 #[.val (.int x1), .val (.int x2), .val (.int x3), .val (.int x4), .val (.int x5), .val (.int (1 : Int32)), .val (.int (0 : Int32)), .val (.int vb7), .val (.int vb8), .val (.int vk), .val (.int vc0), .val (.int vc1), .val (.int vd0), .val (.int vd1), .val (.int vp1), .val (.int vp2), .val (.ref b101), .val (.ref b113), .val (.ref b122), .val (.ref b126), .unset] [(.int (0 : Int32))])) _
          refine XS.ifNo X132.here hx rfl (hb hby at_273) rfl ((if0 _ _).trans (teq (by decide : (0 : Int32) = (0 : Int32))).2) ?_
          show Steps p.tables e below (T132.setTop (mkF m 276 #[.val (.int x1), .val (.int x2), .val (.int x3), .val (.int x4), .val (.int x5), .val (.int (1 : Int32)), .val (.int (0 : Int32)), .val (.int vb7), .val (.int vb8), .val (.int vk), .val (.int vc0), .val (.int vc1), .val (.int vd0), .val (.int vd1), .val (.int vp1), .val (.int vp2), .val (.ref b101), .val (.ref b113), .val (.ref b122), .val (.ref b126), .unset] [])) _
          refine XS.iconst X132.here hx rfl (hb hby at_276) ?_
          show Steps p.tables e below (T132.setTop (mkF m 277 #[.val (.int x1), .val (.int x2), .val (.int x3), .val (.int x4), .val (.int x5), .val (.int (1 : Int32)), .val (.int (0 : Int32)), .val (.int vb7), .val (.int vb8), .val (.int vk), .val (.int vc0), .val (.int vc1), .val (.int vd0), .val (.int vd1), .val (.int vp1), .val (.int vp2), .val (.ref b101), .val (.ref b113), .val (.ref b122), .val (.ref b126), .unset] [(.int (1 : Int32))])) _
          refine XS.goto X132.here hx rfl (pc0 := 277) (pc' := 281) rfl (hb hby at_277) (by decide) (by decide) ?_
          show Steps p.tables e below (T132.setTop (mkF m 281 #[.val (.int x1), .val (.int x2), .val (.int x3), .val (.int x4), .val (.int x5), .val (.int (1 : Int32)), .val (.int (0 : Int32)), .val (.int vb7), .val (.int vb8), .val (.int vk), .val (.int vc0), .val (.int vc1), .val (.int vd0), .val (.int vd1), .val (.int vp1), .val (.int vp2), .val (.ref b101), .val (.ref b113), .val (.ref b122), .val (.ref b126), .unset] [(.int (1 : Int32))])) _
          exact retN X132 hx (t := .boolean) Bd.returns (by simp) (hb hby at_281) hr
        · show own_Q_own_law Z x1 x2 x3 x4 x5 cz h0 n0 _ T132.heap _
          rw [e132]
          exact ⟨rfl, N132⟩
      · skip
        have pre133 : ∀ t, Steps p.tables e below (T128.setTop (mkF m 285 #[.val (.int x1), .val (.int x2), .val (.int x3), .val (.int x4), .val (.int x5), .val (.int (1 : Int32)), .val (.int (0 : Int32)), .val (.int vb7), .val (.int vb8), .val (.int vk), .val (.int vc0), .val (.int vc1), .val (.int vd0), .val (.int vd1), .val (.int vp1), .val (.int vp2), .val (.ref b101), .val (.ref b113), .val (.ref b122), .val (.ref b126), .unset] [(.int (2 : Int32)), (.int vk)])) t → Steps p.tables e below (s₁.setTop (entryFrame m #[(.int x1), (.int x2), (.int x3), (.int x4), (.int x5)] maxLocals)) t := fun t k => pre130 t (by
          refine XS.icmpYes X128.here hx rfl (pc0 := 264) (pc' := 282) rfl (hb hby at_264) rfl (feq hc131).2 (by decide) (by decide) ?_
          show Steps p.tables e below (T128.setTop (mkF m 282 #[.val (.int x1), .val (.int x2), .val (.int x3), .val (.int x4), .val (.int x5), .val (.int (1 : Int32)), .val (.int (0 : Int32)), .val (.int vb7), .val (.int vb8), .val (.int vk), .val (.int vc0), .val (.int vc1), .val (.int vd0), .val (.int vd1), .val (.int vp1), .val (.int vp2), .val (.ref b101), .val (.ref b113), .val (.ref b122), .val (.ref b126), .unset] [])) _
          refine XS.iload X128.here hx rfl (hb hby at_282) rfl ?_
          show Steps p.tables e below (T128.setTop (mkF m 284 #[.val (.int x1), .val (.int x2), .val (.int x3), .val (.int x4), .val (.int x5), .val (.int (1 : Int32)), .val (.int (0 : Int32)), .val (.int vb7), .val (.int vb8), .val (.int vk), .val (.int vc0), .val (.int vc1), .val (.int vd0), .val (.int vd1), .val (.int vp1), .val (.int vp2), .val (.ref b101), .val (.ref b113), .val (.ref b122), .val (.ref b126), .unset] [(.int vk)])) _
          refine XS.iconst X128.here hx rfl (hb hby at_284) ?_
          show Steps p.tables e below (T128.setTop (mkF m 285 #[.val (.int x1), .val (.int x2), .val (.int x3), .val (.int x4), .val (.int x5), .val (.int (1 : Int32)), .val (.int (0 : Int32)), .val (.int vb7), .val (.int vb8), .val (.int vk), .val (.int vc0), .val (.int vc1), .val (.int vd0), .val (.int vd1), .val (.int vp1), .val (.int vp2), .val (.ref b101), .val (.ref b113), .val (.ref b122), .val (.ref b126), .unset] [(.int (2 : Int32)), (.int vk)])) _
          exact k)
        by_cases hc134 : vk = (2 : Int32)
        · skip
          obtain ⟨cq135, kq135, q135a, q135b, q135c⟩ := isOf hZ rfl Ee124
          obtain ⟨_, _, ⟨T135, L135, k135, n135⟩, -, X135, ⟨Lc135, hQ135, l135, y135, z135⟩, st135⟩ := X128.virtualBack hx (y := (⟨"com/example/vigilant_consumer/vigilantconsumer/TopicPartition", "equals", "(Ljava/lang/Object;)Z"⟩ : MethodName)) (z := (⟨"com/example/vigilant_consumer/vigilantconsumer/TopicPartition", "equals", "(Ljava/lang/Object;)Z"⟩ : MethodName)) hown (mvT hZ (hw _ (List.mem_of_getElem? (i := 59) rfl))) (mvT hZ (hw _ (List.mem_of_getElem? (i := 60) rfl))) (notFace_of_selects (args := #[]) (mvT hZ (hw _ (List.mem_of_getElem? (i := 62) rfl)))) (mvT hZ (hw _ (List.mem_of_getElem? (i := 62) rfl))) (mvT hZ (hw _ (List.mem_of_getElem? (i := 61) rfl))) (by decide) (backOf (W := 0) (own_teqO l Z a0 hw [] b122 b101  T128.heap n0 Z129 Ee111) hZ (hw _ (List.mem_of_getElem? (i := 63) rfl)) (hw _ (List.mem_of_getElem? (i := 33) rfl)) (by decide) (by decide)) q135a q135c (g := (mkF m 292 #[.val (.int x1), .val (.int x2), .val (.int x3), .val (.int x4), .val (.int x5), .val (.int (1 : Int32)), .val (.int (0 : Int32)), .val (.int vb7), .val (.int vb8), .val (.int vk), .val (.int vc0), .val (.int vc1), .val (.int vd0), .val (.int vd1), .val (.int vp1), .val (.int vp2), .val (.ref b101), .val (.ref b113), .val (.ref b122), .val (.ref b126), .unset] [(.ref b101), (.ref b122)])) rfl (by rw [hml]; rfl) (Steps.refl _) (argsL := [(.ref b101)]) (rest := []) (lenOf own_pd8 rfl) rfl (by show 2 * 0 + _ ≤ _; exact Nat.le_of_eq rfl) (hb hby at_292) (fun _ _ => ⟨rfl, rfl, (by decide : 12 + 0 ≤ _), (by decide : 66 + 0 ≤ _)⟩)
          dsimp only [Pt.U, Pt.locs, Pt.cells, Pt.slots] at X135 l135 y135 z135 st135 hQ135
          subst l135 y135 z135
          obtain ⟨rfl, N135q, e135⟩ := hQ135
          have N135 := Fr.app N128 N135q
          obtain ⟨fs, hr, hrun, hended, hRW⟩ := X135.leaveW hS (by rw [e135]; exact hk) (v := some (.int (1 : Int32))) (fun h => by rw [Bd.returns] at h; cases h)
          refine ⟨_, _, pre133 _ ?_, hrun, hended, _, _, rfl, ?_, hRW.1, hRW.2.1, hRW.2.2.1, hRW.2.2.2.mono (by decide) (by decide)⟩
          · refine XS.icmpNo X128.here hx rfl (hb hby at_285) rfl (teq hc134).2 ?_
            show Steps p.tables e below (T128.setTop (mkF m 288 #[.val (.int x1), .val (.int x2), .val (.int x3), .val (.int x4), .val (.int x5), .val (.int (1 : Int32)), .val (.int (0 : Int32)), .val (.int vb7), .val (.int vb8), .val (.int vk), .val (.int vc0), .val (.int vc1), .val (.int vd0), .val (.int vd1), .val (.int vp1), .val (.int vp2), .val (.ref b101), .val (.ref b113), .val (.ref b122), .val (.ref b126), .unset] [])) _
            refine XS.aload X128.here hx rfl (hb hby at_288) rfl rfl ?_
            show Steps p.tables e below (T128.setTop (mkF m 290 #[.val (.int x1), .val (.int x2), .val (.int x3), .val (.int x4), .val (.int x5), .val (.int (1 : Int32)), .val (.int (0 : Int32)), .val (.int vb7), .val (.int vb8), .val (.int vk), .val (.int vc0), .val (.int vc1), .val (.int vd0), .val (.int vd1), .val (.int vp1), .val (.int vp2), .val (.ref b101), .val (.ref b113), .val (.ref b122), .val (.ref b126), .unset] [(.ref b122)])) _
            refine XS.aload X128.here hx rfl (hb hby at_290) rfl rfl ?_
            show Steps p.tables e below (T128.setTop (mkF m 292 #[.val (.int x1), .val (.int x2), .val (.int x3), .val (.int x4), .val (.int x5), .val (.int (1 : Int32)), .val (.int (0 : Int32)), .val (.int vb7), .val (.int vb8), .val (.int vk), .val (.int vc0), .val (.int vc1), .val (.int vd0), .val (.int vd1), .val (.int vp1), .val (.int vp2), .val (.ref b101), .val (.ref b113), .val (.ref b122), .val (.ref b126), .unset] [(.ref b101), (.ref b122)])) _
            refine st135.trans ?_
            show Steps p.tables e below (T135.setTop (mkF m 295 #[.val (.int x1), .val (.int x2), .val (.int x3), .val (.int x4), .val (.int x5), .val (.int (1 : Int32)), .val (.int (0 : Int32)), .val (.int vb7), .val (.int vb8), .val (.int vk), .val (.int vc0), .val (.int vc1), .val (.int vd0), .val (.int vd1), .val (.int vp1), .val (.int vp2), .val (.ref b101), .val (.ref b113), .val (.ref b122), .val (.ref b126), .unset] [(.int (0 : Int32))])) _
            refine XS.ifNo X135.here hx rfl (hb hby at_295) rfl ((if0 _ _).trans (teq (by decide : (0 : Int32) = (0 : Int32))).2) ?_
            show Steps p.tables e below (T135.setTop (mkF m 298 #[.val (.int x1), .val (.int x2), .val (.int x3), .val (.int x4), .val (.int x5), .val (.int (1 : Int32)), .val (.int (0 : Int32)), .val (.int vb7), .val (.int vb8), .val (.int vk), .val (.int vc0), .val (.int vc1), .val (.int vd0), .val (.int vd1), .val (.int vp1), .val (.int vp2), .val (.ref b101), .val (.ref b113), .val (.ref b122), .val (.ref b126), .unset] [])) _
            refine XS.iconst X135.here hx rfl (hb hby at_298) ?_
            show Steps p.tables e below (T135.setTop (mkF m 299 #[.val (.int x1), .val (.int x2), .val (.int x3), .val (.int x4), .val (.int x5), .val (.int (1 : Int32)), .val (.int (0 : Int32)), .val (.int vb7), .val (.int vb8), .val (.int vk), .val (.int vc0), .val (.int vc1), .val (.int vd0), .val (.int vd1), .val (.int vp1), .val (.int vp2), .val (.ref b101), .val (.ref b113), .val (.ref b122), .val (.ref b126), .unset] [(.int (1 : Int32))])) _
            refine XS.goto X135.here hx rfl (pc0 := 299) (pc' := 303) rfl (hb hby at_299) (by decide) (by decide) ?_
            show Steps p.tables e below (T135.setTop (mkF m 303 #[.val (.int x1), .val (.int x2), .val (.int x3), .val (.int x4), .val (.int x5), .val (.int (1 : Int32)), .val (.int (0 : Int32)), .val (.int vb7), .val (.int vb8), .val (.int vk), .val (.int vc0), .val (.int vc1), .val (.int vd0), .val (.int vd1), .val (.int vp1), .val (.int vp2), .val (.ref b101), .val (.ref b113), .val (.ref b122), .val (.ref b126), .unset] [(.int (1 : Int32))])) _
            exact retN X135 hx (t := .boolean) Bd.returns (by simp) (hb hby at_303) hr
          · show own_Q_own_law Z x1 x2 x3 x4 x5 cz h0 n0 _ T135.heap _
            rw [e135]
            exact ⟨rfl, N135⟩
        · skip
          have pre136 : ∀ t, Steps p.tables e below (T128.setTop (mkF m 307 #[.val (.int x1), .val (.int x2), .val (.int x3), .val (.int x4), .val (.int x5), .val (.int (1 : Int32)), .val (.int (0 : Int32)), .val (.int vb7), .val (.int vb8), .val (.int vk), .val (.int vc0), .val (.int vc1), .val (.int vd0), .val (.int vd1), .val (.int vp1), .val (.int vp2), .val (.ref b101), .val (.ref b113), .val (.ref b122), .val (.ref b126), .unset] [(.int (3 : Int32)), (.int vk)])) t → Steps p.tables e below (s₁.setTop (entryFrame m #[(.int x1), (.int x2), (.int x3), (.int x4), (.int x5)] maxLocals)) t := fun t k => pre133 t (by
            refine XS.icmpYes X128.here hx rfl (pc0 := 285) (pc' := 304) rfl (hb hby at_285) rfl (feq hc134).2 (by decide) (by decide) ?_
            show Steps p.tables e below (T128.setTop (mkF m 304 #[.val (.int x1), .val (.int x2), .val (.int x3), .val (.int x4), .val (.int x5), .val (.int (1 : Int32)), .val (.int (0 : Int32)), .val (.int vb7), .val (.int vb8), .val (.int vk), .val (.int vc0), .val (.int vc1), .val (.int vd0), .val (.int vd1), .val (.int vp1), .val (.int vp2), .val (.ref b101), .val (.ref b113), .val (.ref b122), .val (.ref b126), .unset] [])) _
            refine XS.iload X128.here hx rfl (hb hby at_304) rfl ?_
            show Steps p.tables e below (T128.setTop (mkF m 306 #[.val (.int x1), .val (.int x2), .val (.int x3), .val (.int x4), .val (.int x5), .val (.int (1 : Int32)), .val (.int (0 : Int32)), .val (.int vb7), .val (.int vb8), .val (.int vk), .val (.int vc0), .val (.int vc1), .val (.int vd0), .val (.int vd1), .val (.int vp1), .val (.int vp2), .val (.ref b101), .val (.ref b113), .val (.ref b122), .val (.ref b126), .unset] [(.int vk)])) _
            refine XS.iconst X128.here hx rfl (hb hby at_306) ?_
            show Steps p.tables e below (T128.setTop (mkF m 307 #[.val (.int x1), .val (.int x2), .val (.int x3), .val (.int x4), .val (.int x5), .val (.int (1 : Int32)), .val (.int (0 : Int32)), .val (.int vb7), .val (.int vb8), .val (.int vk), .val (.int vc0), .val (.int vc1), .val (.int vd0), .val (.int vd1), .val (.int vp1), .val (.int vp2), .val (.ref b101), .val (.ref b113), .val (.ref b122), .val (.ref b126), .unset] [(.int (3 : Int32)), (.int vk)])) _
            exact k)
          by_cases hc137 : vk = (3 : Int32)
          · skip
            obtain ⟨cq138, kq138, q138a, q138b, q138c⟩ := isOf hZ rfl Ee124
            obtain ⟨_, _, ⟨T138, L138, k138, n138⟩, -, X138, ⟨Lc138, hQ138, l138, y138, z138⟩, st138⟩ := X128.virtualBack hx (y := (⟨"com/example/vigilant_consumer/vigilantconsumer/TopicPartition", "equals", "(Ljava/lang/Object;)Z"⟩ : MethodName)) (z := (⟨"com/example/vigilant_consumer/vigilantconsumer/TopicPartition", "equals", "(Ljava/lang/Object;)Z"⟩ : MethodName)) hown (mvT hZ (hw _ (List.mem_of_getElem? (i := 59) rfl))) (mvT hZ (hw _ (List.mem_of_getElem? (i := 60) rfl))) (notFace_of_selects (args := #[]) (mvT hZ (hw _ (List.mem_of_getElem? (i := 62) rfl)))) (mvT hZ (hw _ (List.mem_of_getElem? (i := 62) rfl))) (mvT hZ (hw _ (List.mem_of_getElem? (i := 61) rfl))) (by decide) (backOf (W := 0) (own_teqS l Z a0 hw [] b122 b122 b101 vp1 T128.heap n0 Z129 Ee124 Ft124 Fp124 Ft124 Fp124 Ee111) hZ (hw _ (List.mem_of_getElem? (i := 63) rfl)) (hw _ (List.mem_of_getElem? (i := 33) rfl)) (by decide) (by decide)) q138a q138c (g := (mkF m 314 #[.val (.int x1), .val (.int x2), .val (.int x3), .val (.int x4), .val (.int x5), .val (.int (1 : Int32)), .val (.int (0 : Int32)), .val (.int vb7), .val (.int vb8), .val (.int vk), .val (.int vc0), .val (.int vc1), .val (.int vd0), .val (.int vd1), .val (.int vp1), .val (.int vp2), .val (.ref b101), .val (.ref b113), .val (.ref b122), .val (.ref b126), .unset] [(.ref b122), (.ref b122)])) rfl (by rw [hml]; rfl) (Steps.refl _) (argsL := [(.ref b122)]) (rest := []) (lenOf own_pd8 rfl) rfl (by show 2 * 0 + _ ≤ _; exact Nat.le_of_eq rfl) (hb hby at_314) (fun _ _ => ⟨rfl, rfl, (by decide : 12 + 0 ≤ _), (by decide : 66 + 0 ≤ _)⟩)
            dsimp only [Pt.U, Pt.locs, Pt.cells, Pt.slots] at X138 l138 y138 z138 st138 hQ138
            subst l138 y138 z138
            obtain ⟨rfl, N138q, e138⟩ := hQ138
            have N138 := Fr.app N128 N138q
            obtain ⟨fs, hr, hrun, hended, hRW⟩ := X138.leaveW hS (by rw [e138]; exact hk) (v := some (.int (1 : Int32))) (fun h => by rw [Bd.returns] at h; cases h)
            refine ⟨_, _, pre136 _ ?_, hrun, hended, _, _, rfl, ?_, hRW.1, hRW.2.1, hRW.2.2.1, hRW.2.2.2.mono (by decide) (by decide)⟩
            · refine XS.icmpNo X128.here hx rfl (hb hby at_307) rfl (teq hc137).2 ?_
              show Steps p.tables e below (T128.setTop (mkF m 310 #[.val (.int x1), .val (.int x2), .val (.int x3), .val (.int x4), .val (.int x5), .val (.int (1 : Int32)), .val (.int (0 : Int32)), .val (.int vb7), .val (.int vb8), .val (.int vk), .val (.int vc0), .val (.int vc1), .val (.int vd0), .val (.int vd1), .val (.int vp1), .val (.int vp2), .val (.ref b101), .val (.ref b113), .val (.ref b122), .val (.ref b126), .unset] [])) _
              refine XS.aload X128.here hx rfl (hb hby at_310) rfl rfl ?_
              show Steps p.tables e below (T128.setTop (mkF m 312 #[.val (.int x1), .val (.int x2), .val (.int x3), .val (.int x4), .val (.int x5), .val (.int (1 : Int32)), .val (.int (0 : Int32)), .val (.int vb7), .val (.int vb8), .val (.int vk), .val (.int vc0), .val (.int vc1), .val (.int vd0), .val (.int vd1), .val (.int vp1), .val (.int vp2), .val (.ref b101), .val (.ref b113), .val (.ref b122), .val (.ref b126), .unset] [(.ref b122)])) _
              refine XS.aload X128.here hx rfl (hb hby at_312) rfl rfl ?_
              show Steps p.tables e below (T128.setTop (mkF m 314 #[.val (.int x1), .val (.int x2), .val (.int x3), .val (.int x4), .val (.int x5), .val (.int (1 : Int32)), .val (.int (0 : Int32)), .val (.int vb7), .val (.int vb8), .val (.int vk), .val (.int vc0), .val (.int vc1), .val (.int vd0), .val (.int vd1), .val (.int vp1), .val (.int vp2), .val (.ref b101), .val (.ref b113), .val (.ref b122), .val (.ref b126), .unset] [(.ref b122), (.ref b122)])) _
              refine st138.trans ?_
              show Steps p.tables e below (T138.setTop (mkF m 317 #[.val (.int x1), .val (.int x2), .val (.int x3), .val (.int x4), .val (.int x5), .val (.int (1 : Int32)), .val (.int (0 : Int32)), .val (.int vb7), .val (.int vb8), .val (.int vk), .val (.int vc0), .val (.int vc1), .val (.int vd0), .val (.int vd1), .val (.int vp1), .val (.int vp2), .val (.ref b101), .val (.ref b113), .val (.ref b122), .val (.ref b126), .unset] [(.int (1 : Int32))])) _
              exact retN X138 hx (t := .boolean) Bd.returns (by simp) (hb hby at_317) hr
            · show own_Q_own_law Z x1 x2 x3 x4 x5 cz h0 n0 _ T138.heap _
              rw [e138]
              exact ⟨rfl, N138⟩
          · skip
            have pre140 : ∀ t, Steps p.tables e below (T128.setTop (mkF m 356 #[.val (.int x1), .val (.int x2), .val (.int x3), .val (.int x4), .val (.int x5), .val (.int (1 : Int32)), .val (.int (0 : Int32)), .val (.int vb7), .val (.int vb8), .val (.int vk), .val (.int vc0), .val (.int vc1), .val (.int vd0), .val (.int vd1), .val (.int vp1), .val (.int vp2), .val (.ref b101), .val (.ref b113), .val (.ref b122), .val (.ref b126), .unset] [(.int (0 : Int32))])) t → Steps p.tables e below (s₁.setTop (entryFrame m #[(.int x1), (.int x2), (.int x3), (.int x4), (.int x5)] maxLocals)) t := fun t k => pre136 t (by
              refine XS.icmpYes X128.here hx rfl (pc0 := 307) (pc' := 318) rfl (hb hby at_307) rfl (feq hc137).2 (by decide) (by decide) ?_
              show Steps p.tables e below (T128.setTop (mkF m 318 #[.val (.int x1), .val (.int x2), .val (.int x3), .val (.int x4), .val (.int x5), .val (.int (1 : Int32)), .val (.int (0 : Int32)), .val (.int vb7), .val (.int vb8), .val (.int vk), .val (.int vc0), .val (.int vc1), .val (.int vd0), .val (.int vd1), .val (.int vp1), .val (.int vp2), .val (.ref b101), .val (.ref b113), .val (.ref b122), .val (.ref b126), .unset] [])) _
              refine XS.iload X128.here hx rfl (hb hby at_318) rfl ?_
              show Steps p.tables e below (T128.setTop (mkF m 320 #[.val (.int x1), .val (.int x2), .val (.int x3), .val (.int x4), .val (.int x5), .val (.int (1 : Int32)), .val (.int (0 : Int32)), .val (.int vb7), .val (.int vb8), .val (.int vk), .val (.int vc0), .val (.int vc1), .val (.int vd0), .val (.int vd1), .val (.int vp1), .val (.int vp2), .val (.ref b101), .val (.ref b113), .val (.ref b122), .val (.ref b126), .unset] [(.int vp1)])) _
              refine XS.iload X128.here hx rfl (hb hby at_320) rfl ?_
              show Steps p.tables e below (T128.setTop (mkF m 322 #[.val (.int x1), .val (.int x2), .val (.int x3), .val (.int x4), .val (.int x5), .val (.int (1 : Int32)), .val (.int (0 : Int32)), .val (.int vb7), .val (.int vb8), .val (.int vk), .val (.int vc0), .val (.int vc1), .val (.int vd0), .val (.int vd1), .val (.int vp1), .val (.int vp2), .val (.ref b101), .val (.ref b113), .val (.ref b122), .val (.ref b126), .unset] [(.int vp2), (.int vp1)])) _
              by_cases hc139 : vp1 = vp2
              · skip
                refine XS.icmpNo X128.here hx rfl (hb hby at_322) rfl (teq hc139).2 ?_
                show Steps p.tables e below (T128.setTop (mkF m 325 #[.val (.int x1), .val (.int x2), .val (.int x3), .val (.int x4), .val (.int x5), .val (.int (1 : Int32)), .val (.int (0 : Int32)), .val (.int vb7), .val (.int vb8), .val (.int vk), .val (.int vc0), .val (.int vc1), .val (.int vd0), .val (.int vd1), .val (.int vp1), .val (.int vp2), .val (.ref b101), .val (.ref b113), .val (.ref b122), .val (.ref b126), .unset] [])) _
                refine XS.iload X128.here hx rfl (hb hby at_325) rfl ?_
                show Steps p.tables e below (T128.setTop (mkF m 327 #[.val (.int x1), .val (.int x2), .val (.int x3), .val (.int x4), .val (.int x5), .val (.int (1 : Int32)), .val (.int (0 : Int32)), .val (.int vb7), .val (.int vb8), .val (.int vk), .val (.int vc0), .val (.int vc1), .val (.int vd0), .val (.int vd1), .val (.int vp1), .val (.int vp2), .val (.ref b101), .val (.ref b113), .val (.ref b122), .val (.ref b126), .unset] [(.int (1 : Int32))])) _
                refine XS.iload X128.here hx rfl (hb hby at_327) rfl ?_
                show Steps p.tables e below (T128.setTop (mkF m 329 #[.val (.int x1), .val (.int x2), .val (.int x3), .val (.int x4), .val (.int x5), .val (.int (1 : Int32)), .val (.int (0 : Int32)), .val (.int vb7), .val (.int vb8), .val (.int vk), .val (.int vc0), .val (.int vc1), .val (.int vd0), .val (.int vd1), .val (.int vp1), .val (.int vp2), .val (.ref b101), .val (.ref b113), .val (.ref b122), .val (.ref b126), .unset] [(.int (0 : Int32)), (.int (1 : Int32))])) _
                refine XS.icmpYes X128.here hx rfl (pc0 := 329) (pc' := 355) rfl (hb hby at_329) rfl (feq (by decide : ¬ ((1 : Int32) = (0 : Int32)))).2 (by decide) (by decide) ?_
                show Steps p.tables e below (T128.setTop (mkF m 355 #[.val (.int x1), .val (.int x2), .val (.int x3), .val (.int x4), .val (.int x5), .val (.int (1 : Int32)), .val (.int (0 : Int32)), .val (.int vb7), .val (.int vb8), .val (.int vk), .val (.int vc0), .val (.int vc1), .val (.int vd0), .val (.int vd1), .val (.int vp1), .val (.int vp2), .val (.ref b101), .val (.ref b113), .val (.ref b122), .val (.ref b126), .unset] [])) _
                refine XS.iconst X128.here hx rfl (hb hby at_355) ?_
                exact k
              · skip
                refine XS.icmpYes X128.here hx rfl (pc0 := 322) (pc' := 355) rfl (hb hby at_322) rfl (feq hc139).2 (by decide) (by decide) ?_
                show Steps p.tables e below (T128.setTop (mkF m 355 #[.val (.int x1), .val (.int x2), .val (.int x3), .val (.int x4), .val (.int x5), .val (.int (1 : Int32)), .val (.int (0 : Int32)), .val (.int vb7), .val (.int vb8), .val (.int vk), .val (.int vc0), .val (.int vc1), .val (.int vd0), .val (.int vd1), .val (.int vp1), .val (.int vp2), .val (.ref b101), .val (.ref b113), .val (.ref b122), .val (.ref b126), .unset] [])) _
                refine XS.iconst X128.here hx rfl (hb hby at_355) ?_
                exact k)
            obtain ⟨cq141, kq141, q141a, q141b, q141c⟩ := isOf hZ rfl Ee124
            obtain ⟨_, _, ⟨T141, L141, k141, n141⟩, -, X141, ⟨Lc141, hQ141, l141, y141, z141⟩, st141⟩ := X128.virtualBack hx (y := (⟨"com/example/vigilant_consumer/vigilantconsumer/TopicPartition", "equals", "(Ljava/lang/Object;)Z"⟩ : MethodName)) (z := (⟨"com/example/vigilant_consumer/vigilantconsumer/TopicPartition", "equals", "(Ljava/lang/Object;)Z"⟩ : MethodName)) hown (mvT hZ (hw _ (List.mem_of_getElem? (i := 59) rfl))) (mvT hZ (hw _ (List.mem_of_getElem? (i := 60) rfl))) (notFace_of_selects (args := #[]) (mvT hZ (hw _ (List.mem_of_getElem? (i := 62) rfl)))) (mvT hZ (hw _ (List.mem_of_getElem? (i := 62) rfl))) (mvT hZ (hw _ (List.mem_of_getElem? (i := 61) rfl))) (by decide) (backOf (W := 0) (own_teq21 l Z a0 hw [] b122 b126 b101 b113 vp1 vp2 b111 b120 kb111 kb120 cz ((vc0).toInt8.toInt32) ((vc1).toInt8.toInt32) ((vd0).toInt8.toInt32) T128.heap n0 Z129 Ee128 Ft124 Fp124 Ft128 Fp128 Ee111 Fc111 Fv111 VB111 Ee120 Fc120 Fv120 VB120 ne_b101_b113 (S0.ext O.2) hcz) hZ (hw _ (List.mem_of_getElem? (i := 63) rfl)) (hw _ (List.mem_of_getElem? (i := 33) rfl)) (by decide) (by decide)) q141a q141c (g := (mkF m 362 #[.val (.int x1), .val (.int x2), .val (.int x3), .val (.int x4), .val (.int x5), .val (.int (1 : Int32)), .val (.int (0 : Int32)), .val (.int vb7), .val (.int vb8), .val (.int vk), .val (.int vc0), .val (.int vc1), .val (.int vd0), .val (.int vd1), .val (.int vp1), .val (.int vp2), .val (.ref b101), .val (.ref b113), .val (.ref b122), .val (.ref b126), .val (.int (0 : Int32))] [(.ref b126), (.ref b122)])) rfl (by rw [hml]; rfl) (Steps.refl _) (argsL := [(.ref b126)]) (rest := []) (lenOf own_pd8 rfl) rfl (by show 2 * 0 + _ ≤ _; exact Nat.le_of_eq rfl) (hb hby at_362) (fun _ _ => ⟨rfl, rfl, (by decide : 12 + 0 ≤ _), (by decide : 66 + 0 ≤ _)⟩)
            dsimp only [Pt.U, Pt.locs, Pt.cells, Pt.slots] at X141 l141 y141 z141 st141 hQ141
            subst l141 y141 z141
            obtain ⟨rfl, N141q, e141⟩ := hQ141
            have N141 := Fr.app N128 N141q
            obtain ⟨cq142, kq142, q142a, q142b, q142c⟩ := isOf hZ e141 Ee128
            obtain ⟨_, _, ⟨T142, L142, k142, n142⟩, -, X142, ⟨Lc142, hQ142, l142, y142, z142⟩, st142⟩ := X141.virtualBack hx (y := (⟨"com/example/vigilant_consumer/vigilantconsumer/TopicPartition", "equals", "(Ljava/lang/Object;)Z"⟩ : MethodName)) (z := (⟨"com/example/vigilant_consumer/vigilantconsumer/TopicPartition", "equals", "(Ljava/lang/Object;)Z"⟩ : MethodName)) hown (mvT hZ (hw _ (List.mem_of_getElem? (i := 59) rfl))) (mvT hZ (hw _ (List.mem_of_getElem? (i := 60) rfl))) (notFace_of_selects (args := #[]) (mvT hZ (hw _ (List.mem_of_getElem? (i := 62) rfl)))) (mvT hZ (hw _ (List.mem_of_getElem? (i := 62) rfl))) (mvT hZ (hw _ (List.mem_of_getElem? (i := 61) rfl))) (by decide) (backOf (W := 0) (own_teq12 l Z a0 hw [] b126 b122 b113 b101 vp2 vp1 b120 b111 kb120 kb111 cz ((vd0).toInt8.toInt32) ((vc0).toInt8.toInt32) ((vc1).toInt8.toInt32) T128.heap n0 Z129 Ee124 Ft128 Fp128 Ft124 Fp124 Ee120 Fc120 Fv120 VB120 Ee111 Fc111 Fv111 VB111 (Ne.symm ne_b101_b113) (S0.ext O.2) hcz) hZ (hw _ (List.mem_of_getElem? (i := 63) rfl)) (hw _ (List.mem_of_getElem? (i := 33) rfl)) (by decide) (by decide)) q142a q142c (g := (mkF m 374 #[.val (.int x1), .val (.int x2), .val (.int x3), .val (.int x4), .val (.int x5), .val (.int (1 : Int32)), .val (.int (0 : Int32)), .val (.int vb7), .val (.int vb8), .val (.int vk), .val (.int vc0), .val (.int vc1), .val (.int vd0), .val (.int vd1), .val (.int vp1), .val (.int vp2), .val (.ref b101), .val (.ref b113), .val (.ref b122), .val (.ref b126), .val (.int (0 : Int32))] [(.ref b122), (.ref b126)])) rfl (by rw [hml]; rfl) (Steps.refl _) (argsL := [(.ref b122)]) (rest := []) (lenOf own_pd8 rfl) rfl (by show 2 * 0 + _ ≤ _; exact Nat.le_of_eq rfl) (hb hby at_374) (fun _ _ => ⟨rfl, e141, (by decide : 12 + 0 ≤ _), (by decide : 66 + 0 ≤ _)⟩)
            dsimp only [Pt.U, Pt.locs, Pt.cells, Pt.slots] at X142 l142 y142 z142 st142 hQ142
            subst l142 y142 z142
            obtain ⟨rfl, N142q, e142⟩ := hQ142
            have N142 := Fr.app N141 N142q
            obtain ⟨fs, hr, hrun, hended, hRW⟩ := X142.leaveW hS (by rw [e142]; exact hk) (v := some (.int (1 : Int32))) (fun h => by rw [Bd.returns] at h; cases h)
            refine ⟨_, _, pre140 _ ?_, hrun, hended, _, _, rfl, ?_, hRW.1, hRW.2.1, hRW.2.2.1, hRW.2.2.2.mono (by decide) (by decide)⟩
            · show Steps p.tables e below (T128.setTop (mkF m 356 #[.val (.int x1), .val (.int x2), .val (.int x3), .val (.int x4), .val (.int x5), .val (.int (1 : Int32)), .val (.int (0 : Int32)), .val (.int vb7), .val (.int vb8), .val (.int vk), .val (.int vc0), .val (.int vc1), .val (.int vd0), .val (.int vd1), .val (.int vp1), .val (.int vp2), .val (.ref b101), .val (.ref b113), .val (.ref b122), .val (.ref b126), .unset] [(.int (0 : Int32))])) _
              refine XS.istore X128.here hx rfl (hb hby at_356) rfl (l' := #[.val (.int x1), .val (.int x2), .val (.int x3), .val (.int x4), .val (.int x5), .val (.int (1 : Int32)), .val (.int (0 : Int32)), .val (.int vb7), .val (.int vb8), .val (.int vk), .val (.int vc0), .val (.int vc1), .val (.int vd0), .val (.int vd1), .val (.int vp1), .val (.int vp2), .val (.ref b101), .val (.ref b113), .val (.ref b122), .val (.ref b126), .val (.int (0 : Int32))]) rfl ?_
              show Steps p.tables e below (T128.setTop (mkF m 358 #[.val (.int x1), .val (.int x2), .val (.int x3), .val (.int x4), .val (.int x5), .val (.int (1 : Int32)), .val (.int (0 : Int32)), .val (.int vb7), .val (.int vb8), .val (.int vk), .val (.int vc0), .val (.int vc1), .val (.int vd0), .val (.int vd1), .val (.int vp1), .val (.int vp2), .val (.ref b101), .val (.ref b113), .val (.ref b122), .val (.ref b126), .val (.int (0 : Int32))] [])) _
              refine XS.aload X128.here hx rfl (hb hby at_358) rfl rfl ?_
              show Steps p.tables e below (T128.setTop (mkF m 360 #[.val (.int x1), .val (.int x2), .val (.int x3), .val (.int x4), .val (.int x5), .val (.int (1 : Int32)), .val (.int (0 : Int32)), .val (.int vb7), .val (.int vb8), .val (.int vk), .val (.int vc0), .val (.int vc1), .val (.int vd0), .val (.int vd1), .val (.int vp1), .val (.int vp2), .val (.ref b101), .val (.ref b113), .val (.ref b122), .val (.ref b126), .val (.int (0 : Int32))] [(.ref b122)])) _
              refine XS.aload X128.here hx rfl (hb hby at_360) rfl rfl ?_
              show Steps p.tables e below (T128.setTop (mkF m 362 #[.val (.int x1), .val (.int x2), .val (.int x3), .val (.int x4), .val (.int x5), .val (.int (1 : Int32)), .val (.int (0 : Int32)), .val (.int vb7), .val (.int vb8), .val (.int vk), .val (.int vc0), .val (.int vc1), .val (.int vd0), .val (.int vd1), .val (.int vp1), .val (.int vp2), .val (.ref b101), .val (.ref b113), .val (.ref b122), .val (.ref b126), .val (.int (0 : Int32))] [(.ref b126), (.ref b122)])) _
              refine st141.trans ?_
              show Steps p.tables e below (T141.setTop (mkF m 365 #[.val (.int x1), .val (.int x2), .val (.int x3), .val (.int x4), .val (.int x5), .val (.int (1 : Int32)), .val (.int (0 : Int32)), .val (.int vb7), .val (.int vb8), .val (.int vk), .val (.int vc0), .val (.int vc1), .val (.int vd0), .val (.int vd1), .val (.int vp1), .val (.int vp2), .val (.ref b101), .val (.ref b113), .val (.ref b122), .val (.ref b126), .val (.int (0 : Int32))] [(.int (0 : Int32))])) _
              refine XS.iload X141.here hx rfl (hb hby at_365) rfl ?_
              show Steps p.tables e below (T141.setTop (mkF m 367 #[.val (.int x1), .val (.int x2), .val (.int x3), .val (.int x4), .val (.int x5), .val (.int (1 : Int32)), .val (.int (0 : Int32)), .val (.int vb7), .val (.int vb8), .val (.int vk), .val (.int vc0), .val (.int vc1), .val (.int vd0), .val (.int vd1), .val (.int vp1), .val (.int vp2), .val (.ref b101), .val (.ref b113), .val (.ref b122), .val (.ref b126), .val (.int (0 : Int32))] [(.int (0 : Int32)), (.int (0 : Int32))])) _
              refine XS.icmpNo X141.here hx rfl (hb hby at_367) rfl (teq (by decide : (0 : Int32) = (0 : Int32))).2 ?_
              show Steps p.tables e below (T141.setTop (mkF m 370 #[.val (.int x1), .val (.int x2), .val (.int x3), .val (.int x4), .val (.int x5), .val (.int (1 : Int32)), .val (.int (0 : Int32)), .val (.int vb7), .val (.int vb8), .val (.int vk), .val (.int vc0), .val (.int vc1), .val (.int vd0), .val (.int vd1), .val (.int vp1), .val (.int vp2), .val (.ref b101), .val (.ref b113), .val (.ref b122), .val (.ref b126), .val (.int (0 : Int32))] [])) _
              refine XS.aload X141.here hx rfl (hb hby at_370) rfl rfl ?_
              show Steps p.tables e below (T141.setTop (mkF m 372 #[.val (.int x1), .val (.int x2), .val (.int x3), .val (.int x4), .val (.int x5), .val (.int (1 : Int32)), .val (.int (0 : Int32)), .val (.int vb7), .val (.int vb8), .val (.int vk), .val (.int vc0), .val (.int vc1), .val (.int vd0), .val (.int vd1), .val (.int vp1), .val (.int vp2), .val (.ref b101), .val (.ref b113), .val (.ref b122), .val (.ref b126), .val (.int (0 : Int32))] [(.ref b126)])) _
              refine XS.aload X141.here hx rfl (hb hby at_372) rfl rfl ?_
              show Steps p.tables e below (T141.setTop (mkF m 374 #[.val (.int x1), .val (.int x2), .val (.int x3), .val (.int x4), .val (.int x5), .val (.int (1 : Int32)), .val (.int (0 : Int32)), .val (.int vb7), .val (.int vb8), .val (.int vk), .val (.int vc0), .val (.int vc1), .val (.int vd0), .val (.int vd1), .val (.int vp1), .val (.int vp2), .val (.ref b101), .val (.ref b113), .val (.ref b122), .val (.ref b126), .val (.int (0 : Int32))] [(.ref b122), (.ref b126)])) _
              refine st142.trans ?_
              show Steps p.tables e below (T142.setTop (mkF m 377 #[.val (.int x1), .val (.int x2), .val (.int x3), .val (.int x4), .val (.int x5), .val (.int (1 : Int32)), .val (.int (0 : Int32)), .val (.int vb7), .val (.int vb8), .val (.int vk), .val (.int vc0), .val (.int vc1), .val (.int vd0), .val (.int vd1), .val (.int vp1), .val (.int vp2), .val (.ref b101), .val (.ref b113), .val (.ref b122), .val (.ref b126), .val (.int (0 : Int32))] [(.int (0 : Int32))])) _
              refine XS.iload X142.here hx rfl (hb hby at_377) rfl ?_
              show Steps p.tables e below (T142.setTop (mkF m 379 #[.val (.int x1), .val (.int x2), .val (.int x3), .val (.int x4), .val (.int x5), .val (.int (1 : Int32)), .val (.int (0 : Int32)), .val (.int vb7), .val (.int vb8), .val (.int vk), .val (.int vc0), .val (.int vc1), .val (.int vd0), .val (.int vd1), .val (.int vp1), .val (.int vp2), .val (.ref b101), .val (.ref b113), .val (.ref b122), .val (.ref b126), .val (.int (0 : Int32))] [(.int (0 : Int32)), (.int (0 : Int32))])) _
              refine XS.icmpNo X142.here hx rfl (hb hby at_379) rfl (teq (by decide : (0 : Int32) = (0 : Int32))).2 ?_
              show Steps p.tables e below (T142.setTop (mkF m 382 #[.val (.int x1), .val (.int x2), .val (.int x3), .val (.int x4), .val (.int x5), .val (.int (1 : Int32)), .val (.int (0 : Int32)), .val (.int vb7), .val (.int vb8), .val (.int vk), .val (.int vc0), .val (.int vc1), .val (.int vd0), .val (.int vd1), .val (.int vp1), .val (.int vp2), .val (.ref b101), .val (.ref b113), .val (.ref b122), .val (.ref b126), .val (.int (0 : Int32))] [])) _
              refine XS.iconst X142.here hx rfl (hb hby at_382) ?_
              show Steps p.tables e below (T142.setTop (mkF m 383 #[.val (.int x1), .val (.int x2), .val (.int x3), .val (.int x4), .val (.int x5), .val (.int (1 : Int32)), .val (.int (0 : Int32)), .val (.int vb7), .val (.int vb8), .val (.int vk), .val (.int vc0), .val (.int vc1), .val (.int vd0), .val (.int vd1), .val (.int vp1), .val (.int vp2), .val (.ref b101), .val (.ref b113), .val (.ref b122), .val (.ref b126), .val (.int (0 : Int32))] [(.int (1 : Int32))])) _
              refine XS.goto X142.here hx rfl (pc0 := 383) (pc' := 387) rfl (hb hby at_383) (by decide) (by decide) ?_
              show Steps p.tables e below (T142.setTop (mkF m 387 #[.val (.int x1), .val (.int x2), .val (.int x3), .val (.int x4), .val (.int x5), .val (.int (1 : Int32)), .val (.int (0 : Int32)), .val (.int vb7), .val (.int vb8), .val (.int vk), .val (.int vc0), .val (.int vc1), .val (.int vd0), .val (.int vd1), .val (.int vp1), .val (.int vp2), .val (.ref b101), .val (.ref b113), .val (.ref b122), .val (.ref b126), .val (.int (0 : Int32))] [(.int (1 : Int32))])) _
              exact retN X142 hx (t := .boolean) Bd.returns (by simp) (hb hby at_387) hr
            · show own_Q_own_law Z x1 x2 x3 x4 x5 cz h0 n0 _ T142.heap _
              rw [e142]
              exact ⟨rfl, N142⟩
    · skip
      have one_vb5 : vb5 = (1 : Int32) := by rcases (show vb5 = 0 ∨ vb5 = 1 from by rw [hvb5]; exact own_01) with q | q; exact absurd q hc16; exact q
      have one_vb6 : vb6 = (1 : Int32) := by rcases (show vb6 = 0 ∨ vb6 = 1 from by rw [hvb6]; exact own_01) with q | q; exact absurd q hc100; exact q
      obtain ⟨T143, h143, X143, e143, E143, A143, D143, -, st143⟩ := newO X0 hx hZ hown (hw _ (List.mem_of_getElem? (i := 1) rfl)) (hw _ (List.mem_of_getElem? (i := 2) rfl)) (hw _ (List.mem_of_getElem? (i := 3) rfl)) e0 (g := (mkF m 150 #[.val (.int x1), .val (.int x2), .val (.int x3), .val (.int x4), .val (.int x5), .val (.int (1 : Int32)), .val (.int (1 : Int32)), .val (.int vb7), .val (.int vb8), .val (.int vk), .val (.int vc0), .val (.int vc1), .val (.int vd0), .val (.int vd1), .val (.int vp1), .val (.int vp2), .unset, .unset, .unset, .unset, .unset] [])) rfl (hb hby at_150) (by decide) (by decide)
      obtain ⟨b143, g143⟩ : ∃ z, z = h0.size := ⟨_, rfl⟩
      rw [← g143] at A143 D143 st143
      have g_b143 : n0 ≤ b143 := Nat.le_trans Z0 (Nat.le_of_eq g143.symm)
      have O := O.ext E143
      have hk := Nat.le_trans hk E143.1
      have Z144 : n0 ≤ h143.size := Nat.le_trans Z0 E143.1
      have F_coder_b143 : Fld Z h143 b143 "java/lang/String" "coder" "B" (.int (0 : Int32)) := D143 (Or.inr (hw _ (List.mem_of_getElem? (i := 28) rfl))) (ty := .byte) (by decide)
      have F_value_b143 : Fld Z h143 b143 "java/lang/String" "value" "[B" .null := D143 (Or.inr (hw _ (List.mem_of_getElem? (i := 30) rfl))) (ty := (.array .byte)) (by decide)
      have E_b143 := A143
      obtain ⟨T145, h145, k145, X145, e145, E145, A145, st145⟩ := newP X143 hx hZ (hw _ (List.mem_of_getElem? (i := 4) rfl)) e143 (g := (mkF m 155 #[.val (.int x1), .val (.int x2), .val (.int x3), .val (.int x4), .val (.int x5), .val (.int (1 : Int32)), .val (.int (1 : Int32)), .val (.int vb7), .val (.int vb8), .val (.int vk), .val (.int vc0), .val (.int vc1), .val (.int vd0), .val (.int vd1), .val (.int vp1), .val (.int vp2), .unset, .unset, .unset, .unset, .unset] [(.int (2 : Int32)), (.ref b143), (.ref b143)])) rfl (hb hby at_155) rfl (by decide) (cap := 2) (by decide) (by decide) (by decide) (by decide)
      obtain ⟨b145, g145⟩ : ∃ z, z = h143.size := ⟨_, rfl⟩
      rw [← g145] at A145 st145
      have g_b145 : n0 ≤ b145 := Nat.le_trans Z144 (Nat.le_of_eq g145.symm)
      have ne_b143_b145 : b143 ≠ b145 := Nat.ne_of_lt (Nat.lt_of_lt_of_le F_coder_b143.lt (Nat.le_of_eq g145.symm))
      have O := O.ext E145
      have F_coder_b143 := F_coder_b143.ext E145
      have F_value_b143 := F_value_b143.ext E145
      have E_b143 := E_b143.ext E145
      have hk := Nat.le_trans hk E145.1
      have Z146 : n0 ≤ h145.size := Nat.le_trans Z144 E145.1
      have V_b145 : Arv Z h145 b145 k145 .char (2 : Int32) [(.int (0 : Int32)), (.int (0 : Int32))] (.int (0 : Int32)) := (Arv.new A145 (by decide)).pad (pad_rep [] (.int (0 : Int32)) 2)
      obtain ⟨cl147, Ar147, q147, S147, M147, H147, G147⟩ := id V_b145
      have hin147 : ¬ ((0 : Int32) < 0 ∨ cl147.slots.size ≤ ((0 : Int32)).toNatClampNeg) := inb_of S147 ⟨by decide, by decide⟩
      obtain ⟨T148, h148, X148, e148, W148, st148⟩ := stC X145 hx hZ e145 Ar147 (j := (0 : Int32)) hin147 (g := (mkF m 161 #[.val (.int x1), .val (.int x2), .val (.int x3), .val (.int x4), .val (.int x5), .val (.int (1 : Int32)), .val (.int (1 : Int32)), .val (.int vb7), .val (.int vb8), .val (.int vk), .val (.int vc0), .val (.int vc1), .val (.int vd0), .val (.int vd1), .val (.int vp1), .val (.int vp2), .unset, .unset, .unset, .unset, .unset] [(.int vc0), (.int (0 : Int32)), (.ref b145), (.ref b145), (.ref b143), (.ref b143)])) rfl rfl (hb hby at_161)
      have O := O.wr W148 g_b145
      have F_coder_b143 := F_coder_b143.other W148 (Or.inl ne_b143_b145)
      have F_value_b143 := F_value_b143.other W148 (Or.inl ne_b143_b145)
      have E_b143 := E_b143.wr W148
      have hk := Nat.le_trans hk (Keep.of_wr W148).1
      have Z149 : n0 ≤ h148.size := Nat.le_trans Z146 (Keep.of_wr W148).1
      have V_b145 := Arv.set Ar147 q147 S147 M147 H147 G147 (fits_nar_char _) W148 0 rfl (Nat.le_of_ble_eq_true rfl)
      have V_b145 : Arv Z h148 b145 k145 .char (2 : Int32) [(.int vc0), (.int (0 : Int32))] (.int (0 : Int32)) := by have q := V_b145; simp only [(own_Bc Bvc0), List.set] at q; exact q
      have N148 := Fr.snoc X148 N0 g_b145
      obtain ⟨cl150, Ar150, q150, S150, M150, H150, G150⟩ := id V_b145
      have hin150 : ¬ ((1 : Int32) < 0 ∨ cl150.slots.size ≤ ((1 : Int32)).toNatClampNeg) := inb_of S150 ⟨by decide, by decide⟩
      obtain ⟨T151, h151, X151, e151, W151, st151⟩ := stC X148 hx hZ e148 Ar150 (j := (1 : Int32)) hin150 (g := (mkF m 166 #[.val (.int x1), .val (.int x2), .val (.int x3), .val (.int x4), .val (.int x5), .val (.int (1 : Int32)), .val (.int (1 : Int32)), .val (.int vb7), .val (.int vb8), .val (.int vk), .val (.int vc0), .val (.int vc1), .val (.int vd0), .val (.int vd1), .val (.int vp1), .val (.int vp2), .unset, .unset, .unset, .unset, .unset] [(.int vc1), (.int (1 : Int32)), (.ref b145), (.ref b145), (.ref b143), (.ref b143)])) rfl rfl (hb hby at_166)
      have O := O.wr W151 g_b145
      have F_coder_b143 := F_coder_b143.other W151 (Or.inl ne_b143_b145)
      have F_value_b143 := F_value_b143.other W151 (Or.inl ne_b143_b145)
      have E_b143 := E_b143.wr W151
      have hk := Nat.le_trans hk (Keep.of_wr W151).1
      have Z152 : n0 ≤ h151.size := Nat.le_trans Z149 (Keep.of_wr W151).1
      have V_b145 := Arv.set Ar150 q150 S150 M150 H150 G150 (fits_nar_char _) W151 1 rfl (Nat.le_of_ble_eq_true rfl)
      have V_b145 : Arv Z h151 b145 k145 .char (2 : Int32) [(.int vc0), (.int vc1)] (.int (0 : Int32)) := by have q := V_b145; simp only [(own_Bc Bvc1), List.set] at q; exact q
      have N151 := Fr.snoc X151 N148 g_b145
      obtain ⟨_, _, ⟨T153, L153, k153, n153⟩, -, X153, ⟨Lc153, hQ153, l153, y153, z153⟩, st153⟩ := X151.specialBack hx (y := (⟨"java/lang/String", "<init>", "([C)V"⟩ : MethodName)) rfl hown (mvT hZ (hw _ (List.mem_of_getElem? (i := 5) rfl))) (mvT hZ (hw _ (List.mem_of_getElem? (i := 6) rfl))) (mvT hZ (hw _ (List.mem_of_getElem? (i := 7) rfl))) (by decide) (backOf (W := 1) (own_sic2 l Z a0 hw [] b143 b145 k145 cz (vc0) (vc1) h151 n0 Z152 E_b143 F_coder_b143 F_value_b143 g_b143 V_b145 (own_B5 Bvc0) (own_B5 Bvc1) (S0.ext O.2) hcz) hZ (hw _ (List.mem_of_getElem? (i := 7) rfl)) (hw _ (List.mem_of_getElem? (i := 3) rfl)) (by decide) (by decide)) (g := (mkF m 167 #[.val (.int x1), .val (.int x2), .val (.int x3), .val (.int x4), .val (.int x5), .val (.int (1 : Int32)), .val (.int (1 : Int32)), .val (.int vb7), .val (.int vb8), .val (.int vk), .val (.int vc0), .val (.int vc1), .val (.int vd0), .val (.int vd1), .val (.int vp1), .val (.int vp2), .unset, .unset, .unset, .unset, .unset] [(.ref b145), (.ref b143), (.ref b143)])) rfl (by rw [hml]; rfl) (Steps.refl _) (a := b143) (argsL := [(.ref b145)]) (rest := [(.ref b143)]) (lenOf own_pd9 rfl) rfl (by show 2 * 0 + _ ≤ _; exact Nat.le_of_eq rfl) (hb hby at_167) (fun _ _ => ⟨rfl, e151, (by decide : 2 + 1 ≤ _), (by decide : 6 + 2 ≤ _)⟩)
      dsimp only [Pt.U, Pt.locs, Pt.cells, Pt.slots] at X153 l153 y153 z153 st153 hQ153
      subst l153 y153 z153
      obtain ⟨b153, kb153, rfl, N153q, K153, Ee153, Fc153, Fv153, VB153, sz153⟩ := hQ153
      have N153 := Fr.app N151 N153q
      have g_b153 : n0 ≤ b153 := Nat.le_trans Z152 sz153
      have ne_b143_b153 : b143 ≠ b153 := Nat.ne_of_lt (Nat.lt_of_lt_of_le F_coder_b143.lt sz153)
      have ne_b145_b153 : b145 ≠ b153 := Nat.ne_of_lt (Nat.lt_of_lt_of_le V_b145.lt sz153)
      have O := O.keep K153 (allS g_b143 all0)
      have E_b143 := E_b143.keep K153
      have V_b145 := V_b145.keep K153 (ninS (Ne.symm ne_b143_b145) nin0)
      have hk := Nat.le_trans hk K153.1
      have Z154 := Nat.le_trans Z152 K153.1
      obtain ⟨T155, h155, X155, e155, E155, A155, D155, -, st155⟩ := newO X153 hx hZ hown (hw _ (List.mem_of_getElem? (i := 1) rfl)) (hw _ (List.mem_of_getElem? (i := 2) rfl)) (hw _ (List.mem_of_getElem? (i := 3) rfl)) rfl (g := (mkF m 195 #[.val (.int x1), .val (.int x2), .val (.int x3), .val (.int x4), .val (.int x5), .val (.int (1 : Int32)), .val (.int (1 : Int32)), .val (.int vb7), .val (.int vb8), .val (.int vk), .val (.int vc0), .val (.int vc1), .val (.int vd0), .val (.int vd1), .val (.int vp1), .val (.int vp2), .val (.ref b143), .unset, .unset, .unset, .unset] [])) rfl (hb hby at_195) (by decide) (by decide)
      obtain ⟨b155, g155⟩ : ∃ z, z = T153.heap.size := ⟨_, rfl⟩
      rw [← g155] at A155 D155 st155
      have g_b155 : n0 ≤ b155 := Nat.le_trans Z154 (Nat.le_of_eq g155.symm)
      have ne_b143_b155 : b143 ≠ b155 := Nat.ne_of_lt (Nat.lt_of_lt_of_le Ee153.lt (Nat.le_of_eq g155.symm))
      have ne_b153_b155 : b153 ≠ b155 := Nat.ne_of_lt (Nat.lt_of_lt_of_le VB153.lt (Nat.le_of_eq g155.symm))
      have O := O.ext E155
      have Ee153 := Ee153.ext E155
      have Fc153 := Fc153.ext E155
      have Fv153 := Fv153.ext E155
      have VB153 := VB153.ext E155
      have hk := Nat.le_trans hk E155.1
      have Z156 : n0 ≤ h155.size := Nat.le_trans Z154 E155.1
      have F_coder_b155 : Fld Z h155 b155 "java/lang/String" "coder" "B" (.int (0 : Int32)) := D155 (Or.inr (hw _ (List.mem_of_getElem? (i := 28) rfl))) (ty := .byte) (by decide)
      have F_value_b155 : Fld Z h155 b155 "java/lang/String" "value" "[B" .null := D155 (Or.inr (hw _ (List.mem_of_getElem? (i := 30) rfl))) (ty := (.array .byte)) (by decide)
      have E_b155 := A155
      obtain ⟨T157, h157, k157, X157, e157, E157, A157, st157⟩ := newP X155 hx hZ (hw _ (List.mem_of_getElem? (i := 4) rfl)) e155 (g := (mkF m 200 #[.val (.int x1), .val (.int x2), .val (.int x3), .val (.int x4), .val (.int x5), .val (.int (1 : Int32)), .val (.int (1 : Int32)), .val (.int vb7), .val (.int vb8), .val (.int vk), .val (.int vc0), .val (.int vc1), .val (.int vd0), .val (.int vd1), .val (.int vp1), .val (.int vp2), .val (.ref b143), .unset, .unset, .unset, .unset] [(.int (2 : Int32)), (.ref b155), (.ref b155)])) rfl (hb hby at_200) rfl (by decide) (cap := 2) (by decide) (by decide) (by decide) (by decide)
      obtain ⟨b157, g157⟩ : ∃ z, z = h155.size := ⟨_, rfl⟩
      rw [← g157] at A157 st157
      have g_b157 : n0 ≤ b157 := Nat.le_trans Z156 (Nat.le_of_eq g157.symm)
      have ne_b143_b157 : b143 ≠ b157 := Nat.ne_of_lt (Nat.lt_of_lt_of_le Ee153.lt (Nat.le_of_eq g157.symm))
      have ne_b153_b157 : b153 ≠ b157 := Nat.ne_of_lt (Nat.lt_of_lt_of_le VB153.lt (Nat.le_of_eq g157.symm))
      have ne_b155_b157 : b155 ≠ b157 := Nat.ne_of_lt (Nat.lt_of_lt_of_le F_coder_b155.lt (Nat.le_of_eq g157.symm))
      have O := O.ext E157
      have Ee153 := Ee153.ext E157
      have Fc153 := Fc153.ext E157
      have Fv153 := Fv153.ext E157
      have VB153 := VB153.ext E157
      have F_coder_b155 := F_coder_b155.ext E157
      have F_value_b155 := F_value_b155.ext E157
      have E_b155 := E_b155.ext E157
      have hk := Nat.le_trans hk E157.1
      have Z158 : n0 ≤ h157.size := Nat.le_trans Z156 E157.1
      have V_b157 : Arv Z h157 b157 k157 .char (2 : Int32) [(.int (0 : Int32)), (.int (0 : Int32))] (.int (0 : Int32)) := (Arv.new A157 (by decide)).pad (pad_rep [] (.int (0 : Int32)) 2)
      obtain ⟨cl159, Ar159, q159, S159, M159, H159, G159⟩ := id V_b157
      have hin159 : ¬ ((0 : Int32) < 0 ∨ cl159.slots.size ≤ ((0 : Int32)).toNatClampNeg) := inb_of S159 ⟨by decide, by decide⟩
      obtain ⟨T160, h160, X160, e160, W160, st160⟩ := stC X157 hx hZ e157 Ar159 (j := (0 : Int32)) hin159 (g := (mkF m 206 #[.val (.int x1), .val (.int x2), .val (.int x3), .val (.int x4), .val (.int x5), .val (.int (1 : Int32)), .val (.int (1 : Int32)), .val (.int vb7), .val (.int vb8), .val (.int vk), .val (.int vc0), .val (.int vc1), .val (.int vd0), .val (.int vd1), .val (.int vp1), .val (.int vp2), .val (.ref b143), .unset, .unset, .unset, .unset] [(.int vd0), (.int (0 : Int32)), (.ref b157), (.ref b157), (.ref b155), (.ref b155)])) rfl rfl (hb hby at_206)
      have O := O.wr W160 g_b157
      have Ee153 := Ee153.wr W160
      have Fc153 := Fc153.other W160 (Or.inl ne_b143_b157)
      have Fv153 := Fv153.other W160 (Or.inl ne_b143_b157)
      have VB153 := VB153.other W160 ne_b153_b157
      have F_coder_b155 := F_coder_b155.other W160 (Or.inl ne_b155_b157)
      have F_value_b155 := F_value_b155.other W160 (Or.inl ne_b155_b157)
      have E_b155 := E_b155.wr W160
      have hk := Nat.le_trans hk (Keep.of_wr W160).1
      have Z161 : n0 ≤ h160.size := Nat.le_trans Z158 (Keep.of_wr W160).1
      have V_b157 := Arv.set Ar159 q159 S159 M159 H159 G159 (fits_nar_char _) W160 0 rfl (Nat.le_of_ble_eq_true rfl)
      have V_b157 : Arv Z h160 b157 k157 .char (2 : Int32) [(.int vd0), (.int (0 : Int32))] (.int (0 : Int32)) := by have q := V_b157; simp only [(own_Bc Bvd0), List.set] at q; exact q
      have N160 := Fr.snoc X160 N153 g_b157
      obtain ⟨cl162, Ar162, q162, S162, M162, H162, G162⟩ := id V_b157
      have hin162 : ¬ ((1 : Int32) < 0 ∨ cl162.slots.size ≤ ((1 : Int32)).toNatClampNeg) := inb_of S162 ⟨by decide, by decide⟩
      obtain ⟨T163, h163, X163, e163, W163, st163⟩ := stC X160 hx hZ e160 Ar162 (j := (1 : Int32)) hin162 (g := (mkF m 211 #[.val (.int x1), .val (.int x2), .val (.int x3), .val (.int x4), .val (.int x5), .val (.int (1 : Int32)), .val (.int (1 : Int32)), .val (.int vb7), .val (.int vb8), .val (.int vk), .val (.int vc0), .val (.int vc1), .val (.int vd0), .val (.int vd1), .val (.int vp1), .val (.int vp2), .val (.ref b143), .unset, .unset, .unset, .unset] [(.int vd1), (.int (1 : Int32)), (.ref b157), (.ref b157), (.ref b155), (.ref b155)])) rfl rfl (hb hby at_211)
      have O := O.wr W163 g_b157
      have Ee153 := Ee153.wr W163
      have Fc153 := Fc153.other W163 (Or.inl ne_b143_b157)
      have Fv153 := Fv153.other W163 (Or.inl ne_b143_b157)
      have VB153 := VB153.other W163 ne_b153_b157
      have F_coder_b155 := F_coder_b155.other W163 (Or.inl ne_b155_b157)
      have F_value_b155 := F_value_b155.other W163 (Or.inl ne_b155_b157)
      have E_b155 := E_b155.wr W163
      have hk := Nat.le_trans hk (Keep.of_wr W163).1
      have Z164 : n0 ≤ h163.size := Nat.le_trans Z161 (Keep.of_wr W163).1
      have V_b157 := Arv.set Ar162 q162 S162 M162 H162 G162 (fits_nar_char _) W163 1 rfl (Nat.le_of_ble_eq_true rfl)
      have V_b157 : Arv Z h163 b157 k157 .char (2 : Int32) [(.int vd0), (.int vd1)] (.int (0 : Int32)) := by have q := V_b157; simp only [(own_Bc Bvd1), List.set] at q; exact q
      have N163 := Fr.snoc X163 N160 g_b157
      obtain ⟨_, _, ⟨T165, L165, k165, n165⟩, -, X165, ⟨Lc165, hQ165, l165, y165, z165⟩, st165⟩ := X163.specialBack hx (y := (⟨"java/lang/String", "<init>", "([C)V"⟩ : MethodName)) rfl hown (mvT hZ (hw _ (List.mem_of_getElem? (i := 5) rfl))) (mvT hZ (hw _ (List.mem_of_getElem? (i := 6) rfl))) (mvT hZ (hw _ (List.mem_of_getElem? (i := 7) rfl))) (by decide) (backOf (W := 1) (own_sic2 l Z a0 hw [] b155 b157 k157 cz (vd0) (vd1) h163 n0 Z164 E_b155 F_coder_b155 F_value_b155 g_b155 V_b157 (own_B5 Bvd0) (own_B5 Bvd1) (S0.ext O.2) hcz) hZ (hw _ (List.mem_of_getElem? (i := 7) rfl)) (hw _ (List.mem_of_getElem? (i := 3) rfl)) (by decide) (by decide)) (g := (mkF m 212 #[.val (.int x1), .val (.int x2), .val (.int x3), .val (.int x4), .val (.int x5), .val (.int (1 : Int32)), .val (.int (1 : Int32)), .val (.int vb7), .val (.int vb8), .val (.int vk), .val (.int vc0), .val (.int vc1), .val (.int vd0), .val (.int vd1), .val (.int vp1), .val (.int vp2), .val (.ref b143), .unset, .unset, .unset, .unset] [(.ref b157), (.ref b155), (.ref b155)])) rfl (by rw [hml]; rfl) (Steps.refl _) (a := b155) (argsL := [(.ref b157)]) (rest := [(.ref b155)]) (lenOf own_pd9 rfl) rfl (by show 2 * 0 + _ ≤ _; exact Nat.le_of_eq rfl) (hb hby at_212) (fun _ _ => ⟨rfl, e163, (by decide : 5 + 1 ≤ _), (by decide : 14 + 2 ≤ _)⟩)
      dsimp only [Pt.U, Pt.locs, Pt.cells, Pt.slots] at X165 l165 y165 z165 st165 hQ165
      subst l165 y165 z165
      obtain ⟨b165, kb165, rfl, N165q, K165, Ee165, Fc165, Fv165, VB165, sz165⟩ := hQ165
      have N165 := Fr.app N163 N165q
      have g_b165 : n0 ≤ b165 := Nat.le_trans Z164 sz165
      have ne_b143_b165 : b143 ≠ b165 := Nat.ne_of_lt (Nat.lt_of_lt_of_le Ee153.lt sz165)
      have ne_b153_b165 : b153 ≠ b165 := Nat.ne_of_lt (Nat.lt_of_lt_of_le VB153.lt sz165)
      have ne_b155_b165 : b155 ≠ b165 := Nat.ne_of_lt (Nat.lt_of_lt_of_le F_coder_b155.lt sz165)
      have ne_b157_b165 : b157 ≠ b165 := Nat.ne_of_lt (Nat.lt_of_lt_of_le V_b157.lt sz165)
      have O := O.keep K165 (allS g_b155 all0)
      have Ee153 := Ee153.keep K165
      have Fc153 := Fc153.keep K165 (ninS ne_b143_b155 nin0)
      have Fv153 := Fv153.keep K165 (ninS ne_b143_b155 nin0)
      have VB153 := VB153.keep K165 (ninS ne_b153_b155 nin0)
      have E_b155 := E_b155.keep K165
      have V_b157 := V_b157.keep K165 (ninS (Ne.symm ne_b155_b157) nin0)
      have hk := Nat.le_trans hk K165.1
      have Z166 := Nat.le_trans Z164 K165.1
      obtain ⟨T167, h167, X167, e167, E167, A167, D167, -, st167⟩ := newO X165 hx hZ hown (hw _ (List.mem_of_getElem? (i := 31) rfl)) (hw _ (List.mem_of_getElem? (i := 32) rfl)) (hw _ (List.mem_of_getElem? (i := 33) rfl)) rfl (g := (mkF m 235 #[.val (.int x1), .val (.int x2), .val (.int x3), .val (.int x4), .val (.int x5), .val (.int (1 : Int32)), .val (.int (1 : Int32)), .val (.int vb7), .val (.int vb8), .val (.int vk), .val (.int vc0), .val (.int vc1), .val (.int vd0), .val (.int vd1), .val (.int vp1), .val (.int vp2), .val (.ref b143), .val (.ref b155), .unset, .unset, .unset] [])) rfl (hb hby at_235) (by decide) (by decide)
      obtain ⟨b167, g167⟩ : ∃ z, z = T165.heap.size := ⟨_, rfl⟩
      rw [← g167] at A167 D167 st167
      have g_b167 : n0 ≤ b167 := Nat.le_trans Z166 (Nat.le_of_eq g167.symm)
      have ne_b143_b167 : b143 ≠ b167 := Nat.ne_of_lt (Nat.lt_of_lt_of_le Ee153.lt (Nat.le_of_eq g167.symm))
      have ne_b153_b167 : b153 ≠ b167 := Nat.ne_of_lt (Nat.lt_of_lt_of_le VB153.lt (Nat.le_of_eq g167.symm))
      have ne_b155_b167 : b155 ≠ b167 := Nat.ne_of_lt (Nat.lt_of_lt_of_le Ee165.lt (Nat.le_of_eq g167.symm))
      have ne_b165_b167 : b165 ≠ b167 := Nat.ne_of_lt (Nat.lt_of_lt_of_le VB165.lt (Nat.le_of_eq g167.symm))
      have O := O.ext E167
      have Ee153 := Ee153.ext E167
      have Fc153 := Fc153.ext E167
      have Fv153 := Fv153.ext E167
      have VB153 := VB153.ext E167
      have Ee165 := Ee165.ext E167
      have Fc165 := Fc165.ext E167
      have Fv165 := Fv165.ext E167
      have VB165 := VB165.ext E167
      have hk := Nat.le_trans hk E167.1
      have Z168 : n0 ≤ h167.size := Nat.le_trans Z166 E167.1
      have F_topic_b167 : Fld Z h167 b167 "com/example/vigilant_consumer/vigilantconsumer/TopicPartition" "topic" "Ljava/lang/String;" .null := D167 (Or.inr (hw _ (List.mem_of_getElem? (i := 56) rfl))) (ty := (.object "java/lang/String")) (by decide)
      have F_partition_b167 : Fld Z h167 b167 "com/example/vigilant_consumer/vigilantconsumer/TopicPartition" "partition" "I" (.int (0 : Int32)) := D167 (Or.inr (hw _ (List.mem_of_getElem? (i := 58) rfl))) (ty := .int) (by decide)
      have E_b167 := A167
      obtain ⟨_, _, ⟨T169, L169, k169, n169⟩, -, X169, hS169, hg169, ⟨Lc169, hQ169, l169, y169, z169⟩, st169⟩ := X167.specialBackS hx (y := (⟨"com/example/vigilant_consumer/vigilantconsumer/TopicPartition", "<init>", "(Ljava/lang/String;I)V"⟩ : MethodName)) rfl hown (mvT hZ (hw _ (List.mem_of_getElem? (i := 34) rfl))) (mvT hZ (hw _ (List.mem_of_getElem? (i := 35) rfl))) (mvT hZ (hw _ (List.mem_of_getElem? (i := 36) rfl))) (by decide) (backOfS (W := 1) (own_init2 l Z a0 hw [] b167 b143 vp1 b153 kb153 ((vc0).toInt8.toInt32) ((vc1).toInt8.toInt32) h167 n0 Z168 E_b167 F_topic_b167 F_partition_b167 g_b167 Ee153 Fv153 VB153 Pvp1) hZ (hw _ (List.mem_of_getElem? (i := 36) rfl)) (hw _ (List.mem_of_getElem? (i := 33) rfl)) (by decide) (by decide)) (g := (mkF m 243 #[.val (.int x1), .val (.int x2), .val (.int x3), .val (.int x4), .val (.int x5), .val (.int (1 : Int32)), .val (.int (1 : Int32)), .val (.int vb7), .val (.int vb8), .val (.int vk), .val (.int vc0), .val (.int vc1), .val (.int vd0), .val (.int vd1), .val (.int vp1), .val (.int vp2), .val (.ref b143), .val (.ref b155), .unset, .unset, .unset] [(.int vp1), (.ref b143), (.ref b167), (.ref b167)])) rfl (by rw [hml]; rfl) (Steps.refl _) (a := b167) (argsL := [(.ref b143), (.int vp1)]) (rest := [(.ref b167)]) (lenOf own_pd10 rfl) rfl (by show 2 * 0 + _ ≤ _; exact Nat.le_of_eq rfl) (hb hby at_243) (fun _ _ => ⟨rfl, e167, (by decide : 7 + 2 ≤ _), (by decide : 18 + 24 ≤ _)⟩)
      dsimp only [Pt.U, Pt.locs, Pt.cells, Pt.slots] at X169 l169 y169 z169 st169 hQ169 hS169 hg169
      subst l169 y169 z169
      obtain ⟨X169, hS, hZ, hown⟩ := rebS hS (show _ ≤ T167.heap.size by rw [e167]; exact hk) X169 hS169 hg169 hZ hown
      obtain ⟨rfl, N169q, K169, Ee169, Ft169, Fp169⟩ := hQ169
      have N169 := Fr.app N165 N169q
      have O := O.keep K169 (allS g_b167 all0)
      have Ee153 := Ee153.keep K169
      have Fc153 := Fc153.keep K169 (ninS ne_b143_b167 nin0)
      have Fv153 := Fv153.keep K169 (ninS ne_b143_b167 nin0)
      have VB153 := VB153.keep K169 (ninS ne_b153_b167 nin0)
      have Ee165 := Ee165.keep K169
      have Fc165 := Fc165.keep K169 (ninS ne_b155_b167 nin0)
      have Fv165 := Fv165.keep K169 (ninS ne_b155_b167 nin0)
      have VB165 := VB165.keep K169 (ninS ne_b165_b167 nin0)
      have E_b167 := E_b167.keep K169
      have Z170 := Nat.le_trans Z168 K169.1
      have hk := Nat.le_refl T169.heap.size
      obtain ⟨T171, h171, X171, e171, E171, A171, D171, -, st171⟩ := newO X169 hx hZ hown (hw _ (List.mem_of_getElem? (i := 31) rfl)) (hw _ (List.mem_of_getElem? (i := 32) rfl)) (hw _ (List.mem_of_getElem? (i := 33) rfl)) rfl (g := (mkF m 248 #[.val (.int x1), .val (.int x2), .val (.int x3), .val (.int x4), .val (.int x5), .val (.int (1 : Int32)), .val (.int (1 : Int32)), .val (.int vb7), .val (.int vb8), .val (.int vk), .val (.int vc0), .val (.int vc1), .val (.int vd0), .val (.int vd1), .val (.int vp1), .val (.int vp2), .val (.ref b143), .val (.ref b155), .val (.ref b167), .unset, .unset] [])) rfl (hb hby at_248) (by decide) (by decide)
      obtain ⟨b171, g171⟩ : ∃ z, z = T169.heap.size := ⟨_, rfl⟩
      rw [← g171] at A171 D171 st171
      have g_b171 : n0 ≤ b171 := Nat.le_trans Z170 (Nat.le_of_eq g171.symm)
      have ne_b143_b171 : b143 ≠ b171 := Nat.ne_of_lt (Nat.lt_of_lt_of_le Ee153.lt (Nat.le_of_eq g171.symm))
      have ne_b153_b171 : b153 ≠ b171 := Nat.ne_of_lt (Nat.lt_of_lt_of_le VB153.lt (Nat.le_of_eq g171.symm))
      have ne_b155_b171 : b155 ≠ b171 := Nat.ne_of_lt (Nat.lt_of_lt_of_le Ee165.lt (Nat.le_of_eq g171.symm))
      have ne_b165_b171 : b165 ≠ b171 := Nat.ne_of_lt (Nat.lt_of_lt_of_le VB165.lt (Nat.le_of_eq g171.symm))
      have ne_b167_b171 : b167 ≠ b171 := Nat.ne_of_lt (Nat.lt_of_lt_of_le Ee169.lt (Nat.le_of_eq g171.symm))
      have O := O.ext E171
      have Ee153 := Ee153.ext E171
      have Fc153 := Fc153.ext E171
      have Fv153 := Fv153.ext E171
      have VB153 := VB153.ext E171
      have Ee165 := Ee165.ext E171
      have Fc165 := Fc165.ext E171
      have Fv165 := Fv165.ext E171
      have VB165 := VB165.ext E171
      have Ee169 := Ee169.ext E171
      have Ft169 := Ft169.ext E171
      have Fp169 := Fp169.ext E171
      have hk := Nat.le_trans hk E171.1
      have Z172 : n0 ≤ h171.size := Nat.le_trans Z170 E171.1
      have F_topic_b171 : Fld Z h171 b171 "com/example/vigilant_consumer/vigilantconsumer/TopicPartition" "topic" "Ljava/lang/String;" .null := D171 (Or.inr (hw _ (List.mem_of_getElem? (i := 56) rfl))) (ty := (.object "java/lang/String")) (by decide)
      have F_partition_b171 : Fld Z h171 b171 "com/example/vigilant_consumer/vigilantconsumer/TopicPartition" "partition" "I" (.int (0 : Int32)) := D171 (Or.inr (hw _ (List.mem_of_getElem? (i := 58) rfl))) (ty := .int) (by decide)
      have E_b171 := A171
      obtain ⟨_, _, ⟨T173, L173, k173, n173⟩, -, X173, hS173, hg173, ⟨Lc173, hQ173, l173, y173, z173⟩, st173⟩ := X171.specialBackS hx (y := (⟨"com/example/vigilant_consumer/vigilantconsumer/TopicPartition", "<init>", "(Ljava/lang/String;I)V"⟩ : MethodName)) rfl hown (mvT hZ (hw _ (List.mem_of_getElem? (i := 34) rfl))) (mvT hZ (hw _ (List.mem_of_getElem? (i := 35) rfl))) (mvT hZ (hw _ (List.mem_of_getElem? (i := 36) rfl))) (by decide) (backOfS (W := 1) (own_init2 l Z a0 hw [] b171 b155 vp2 b165 kb165 ((vd0).toInt8.toInt32) ((vd1).toInt8.toInt32) h171 n0 Z172 E_b171 F_topic_b171 F_partition_b171 g_b171 Ee165 Fv165 VB165 Pvp2) hZ (hw _ (List.mem_of_getElem? (i := 36) rfl)) (hw _ (List.mem_of_getElem? (i := 33) rfl)) (by decide) (by decide)) (g := (mkF m 256 #[.val (.int x1), .val (.int x2), .val (.int x3), .val (.int x4), .val (.int x5), .val (.int (1 : Int32)), .val (.int (1 : Int32)), .val (.int vb7), .val (.int vb8), .val (.int vk), .val (.int vc0), .val (.int vc1), .val (.int vd0), .val (.int vd1), .val (.int vp1), .val (.int vp2), .val (.ref b143), .val (.ref b155), .val (.ref b167), .unset, .unset] [(.int vp2), (.ref b155), (.ref b171), (.ref b171)])) rfl (by rw [hml]; rfl) (Steps.refl _) (a := b171) (argsL := [(.ref b155), (.int vp2)]) (rest := [(.ref b171)]) (lenOf own_pd10 rfl) rfl (by show 2 * 0 + _ ≤ _; exact Nat.le_of_eq rfl) (hb hby at_256) (fun _ _ => ⟨rfl, e171, (by decide : 10 + 2 ≤ _), (by decide : 44 + 24 ≤ _)⟩)
      dsimp only [Pt.U, Pt.locs, Pt.cells, Pt.slots] at X173 l173 y173 z173 st173 hQ173 hS173 hg173
      subst l173 y173 z173
      obtain ⟨X173, hS, hZ, hown⟩ := rebS hS (show _ ≤ T171.heap.size by rw [e171]; exact hk) X173 hS173 hg173 hZ hown
      obtain ⟨rfl, N173q, K173, Ee173, Ft173, Fp173⟩ := hQ173
      have N173 := Fr.app N169 N173q
      have O := O.keep K173 (allS g_b171 all0)
      have Ee153 := Ee153.keep K173
      have Fc153 := Fc153.keep K173 (ninS ne_b143_b171 nin0)
      have Fv153 := Fv153.keep K173 (ninS ne_b143_b171 nin0)
      have VB153 := VB153.keep K173 (ninS ne_b153_b171 nin0)
      have Ee165 := Ee165.keep K173
      have Fc165 := Fc165.keep K173 (ninS ne_b155_b171 nin0)
      have Fv165 := Fv165.keep K173 (ninS ne_b155_b171 nin0)
      have VB165 := VB165.keep K173 (ninS ne_b165_b171 nin0)
      have Ee169 := Ee169.keep K173
      have Ft169 := Ft169.keep K173 (ninS ne_b167_b171 nin0)
      have Fp169 := Fp169.keep K173 (ninS ne_b167_b171 nin0)
      have E_b171 := E_b171.keep K173
      have Z174 := Nat.le_trans Z172 K173.1
      have hk := Nat.le_refl T173.heap.size
      have pre175 : ∀ t, Steps p.tables e below (T173.setTop (mkF m 264 #[.val (.int x1), .val (.int x2), .val (.int x3), .val (.int x4), .val (.int x5), .val (.int (1 : Int32)), .val (.int (1 : Int32)), .val (.int vb7), .val (.int vb8), .val (.int vk), .val (.int vc0), .val (.int vc1), .val (.int vd0), .val (.int vd1), .val (.int vp1), .val (.int vp2), .val (.ref b143), .val (.ref b155), .val (.ref b167), .val (.ref b171), .unset] [(.int (1 : Int32)), (.int vk)])) t → Steps p.tables e below (s₁.setTop (entryFrame m #[(.int x1), (.int x2), (.int x3), (.int x4), (.int x5)] maxLocals)) t := fun t k => pre15 t (by
        show Steps p.tables e below (s₁.setTop (mkF m 145 #[.val (.int x1), .val (.int x2), .val (.int x3), .val (.int x4), .val (.int x5), .val (.int vb5), .val (.int vb6), .val (.int vb7), .val (.int vb8), .val (.int vk), .val (.int vc0), .val (.int vc1), .val (.int vd0), .val (.int vd1), .val (.int vp1), .val (.int vp2), .unset, .unset, .unset, .unset, .unset] [])) _
        rw [one_vb5]
        show Steps p.tables e below (s₁.setTop (mkF m 145 #[.val (.int x1), .val (.int x2), .val (.int x3), .val (.int x4), .val (.int x5), .val (.int (1 : Int32)), .val (.int vb6), .val (.int vb7), .val (.int vb8), .val (.int vk), .val (.int vc0), .val (.int vc1), .val (.int vd0), .val (.int vd1), .val (.int vp1), .val (.int vp2), .unset, .unset, .unset, .unset, .unset] [])) _
        rw [one_vb6]
        show Steps p.tables e below (s₁.setTop (mkF m 145 #[.val (.int x1), .val (.int x2), .val (.int x3), .val (.int x4), .val (.int x5), .val (.int (1 : Int32)), .val (.int (1 : Int32)), .val (.int vb7), .val (.int vb8), .val (.int vk), .val (.int vc0), .val (.int vc1), .val (.int vd0), .val (.int vd1), .val (.int vp1), .val (.int vp2), .unset, .unset, .unset, .unset, .unset] [])) _
        refine XS.iload X0.here hx rfl (hb hby at_145) rfl ?_
        show Steps p.tables e below (s₁.setTop (mkF m 147 #[.val (.int x1), .val (.int x2), .val (.int x3), .val (.int x4), .val (.int x5), .val (.int (1 : Int32)), .val (.int (1 : Int32)), .val (.int vb7), .val (.int vb8), .val (.int vk), .val (.int vc0), .val (.int vc1), .val (.int vd0), .val (.int vd1), .val (.int vp1), .val (.int vp2), .unset, .unset, .unset, .unset, .unset] [(.int (1 : Int32))])) _
        refine XS.ifNo X0.here hx rfl (hb hby at_147) rfl ((if0 _ _).trans (feq (by decide : ¬ ((1 : Int32) = (0 : Int32)))).1) ?_
        show Steps p.tables e below (s₁.setTop (mkF m 150 #[.val (.int x1), .val (.int x2), .val (.int x3), .val (.int x4), .val (.int x5), .val (.int (1 : Int32)), .val (.int (1 : Int32)), .val (.int vb7), .val (.int vb8), .val (.int vk), .val (.int vc0), .val (.int vc1), .val (.int vd0), .val (.int vd1), .val (.int vp1), .val (.int vp2), .unset, .unset, .unset, .unset, .unset] [])) _
        refine st143 _ ?_
        show Steps p.tables e below (T143.setTop (mkF m 153 #[.val (.int x1), .val (.int x2), .val (.int x3), .val (.int x4), .val (.int x5), .val (.int (1 : Int32)), .val (.int (1 : Int32)), .val (.int vb7), .val (.int vb8), .val (.int vk), .val (.int vc0), .val (.int vc1), .val (.int vd0), .val (.int vd1), .val (.int vp1), .val (.int vp2), .unset, .unset, .unset, .unset, .unset] [(.ref b143)])) _
        refine XS.dup X143.here hx rfl (hb hby at_153) rfl rfl ?_
        show Steps p.tables e below (T143.setTop (mkF m 154 #[.val (.int x1), .val (.int x2), .val (.int x3), .val (.int x4), .val (.int x5), .val (.int (1 : Int32)), .val (.int (1 : Int32)), .val (.int vb7), .val (.int vb8), .val (.int vk), .val (.int vc0), .val (.int vc1), .val (.int vd0), .val (.int vd1), .val (.int vp1), .val (.int vp2), .unset, .unset, .unset, .unset, .unset] [(.ref b143), (.ref b143)])) _
        refine XS.iconst X143.here hx rfl (hb hby at_154) ?_
        show Steps p.tables e below (T143.setTop (mkF m 155 #[.val (.int x1), .val (.int x2), .val (.int x3), .val (.int x4), .val (.int x5), .val (.int (1 : Int32)), .val (.int (1 : Int32)), .val (.int vb7), .val (.int vb8), .val (.int vk), .val (.int vc0), .val (.int vc1), .val (.int vd0), .val (.int vd1), .val (.int vp1), .val (.int vp2), .unset, .unset, .unset, .unset, .unset] [(.int (2 : Int32)), (.ref b143), (.ref b143)])) _
        refine st145 _ ?_
        show Steps p.tables e below (T145.setTop (mkF m 157 #[.val (.int x1), .val (.int x2), .val (.int x3), .val (.int x4), .val (.int x5), .val (.int (1 : Int32)), .val (.int (1 : Int32)), .val (.int vb7), .val (.int vb8), .val (.int vk), .val (.int vc0), .val (.int vc1), .val (.int vd0), .val (.int vd1), .val (.int vp1), .val (.int vp2), .unset, .unset, .unset, .unset, .unset] [(.ref b145), (.ref b143), (.ref b143)])) _
        refine XS.dup X145.here hx rfl (hb hby at_157) rfl rfl ?_
        show Steps p.tables e below (T145.setTop (mkF m 158 #[.val (.int x1), .val (.int x2), .val (.int x3), .val (.int x4), .val (.int x5), .val (.int (1 : Int32)), .val (.int (1 : Int32)), .val (.int vb7), .val (.int vb8), .val (.int vk), .val (.int vc0), .val (.int vc1), .val (.int vd0), .val (.int vd1), .val (.int vp1), .val (.int vp2), .unset, .unset, .unset, .unset, .unset] [(.ref b145), (.ref b145), (.ref b143), (.ref b143)])) _
        refine XS.iconst X145.here hx rfl (hb hby at_158) ?_
        show Steps p.tables e below (T145.setTop (mkF m 159 #[.val (.int x1), .val (.int x2), .val (.int x3), .val (.int x4), .val (.int x5), .val (.int (1 : Int32)), .val (.int (1 : Int32)), .val (.int vb7), .val (.int vb8), .val (.int vk), .val (.int vc0), .val (.int vc1), .val (.int vd0), .val (.int vd1), .val (.int vp1), .val (.int vp2), .unset, .unset, .unset, .unset, .unset] [(.int (0 : Int32)), (.ref b145), (.ref b145), (.ref b143), (.ref b143)])) _
        refine XS.iload X145.here hx rfl (hb hby at_159) rfl ?_
        show Steps p.tables e below (T145.setTop (mkF m 161 #[.val (.int x1), .val (.int x2), .val (.int x3), .val (.int x4), .val (.int x5), .val (.int (1 : Int32)), .val (.int (1 : Int32)), .val (.int vb7), .val (.int vb8), .val (.int vk), .val (.int vc0), .val (.int vc1), .val (.int vd0), .val (.int vd1), .val (.int vp1), .val (.int vp2), .unset, .unset, .unset, .unset, .unset] [(.int vc0), (.int (0 : Int32)), (.ref b145), (.ref b145), (.ref b143), (.ref b143)])) _
        refine st148 _ ?_
        show Steps p.tables e below (T148.setTop (mkF m 162 #[.val (.int x1), .val (.int x2), .val (.int x3), .val (.int x4), .val (.int x5), .val (.int (1 : Int32)), .val (.int (1 : Int32)), .val (.int vb7), .val (.int vb8), .val (.int vk), .val (.int vc0), .val (.int vc1), .val (.int vd0), .val (.int vd1), .val (.int vp1), .val (.int vp2), .unset, .unset, .unset, .unset, .unset] [(.ref b145), (.ref b143), (.ref b143)])) _
        refine XS.dup X148.here hx rfl (hb hby at_162) rfl rfl ?_
        show Steps p.tables e below (T148.setTop (mkF m 163 #[.val (.int x1), .val (.int x2), .val (.int x3), .val (.int x4), .val (.int x5), .val (.int (1 : Int32)), .val (.int (1 : Int32)), .val (.int vb7), .val (.int vb8), .val (.int vk), .val (.int vc0), .val (.int vc1), .val (.int vd0), .val (.int vd1), .val (.int vp1), .val (.int vp2), .unset, .unset, .unset, .unset, .unset] [(.ref b145), (.ref b145), (.ref b143), (.ref b143)])) _
        refine XS.iconst X148.here hx rfl (hb hby at_163) ?_
        show Steps p.tables e below (T148.setTop (mkF m 164 #[.val (.int x1), .val (.int x2), .val (.int x3), .val (.int x4), .val (.int x5), .val (.int (1 : Int32)), .val (.int (1 : Int32)), .val (.int vb7), .val (.int vb8), .val (.int vk), .val (.int vc0), .val (.int vc1), .val (.int vd0), .val (.int vd1), .val (.int vp1), .val (.int vp2), .unset, .unset, .unset, .unset, .unset] [(.int (1 : Int32)), (.ref b145), (.ref b145), (.ref b143), (.ref b143)])) _
        refine XS.iload X148.here hx rfl (hb hby at_164) rfl ?_
        show Steps p.tables e below (T148.setTop (mkF m 166 #[.val (.int x1), .val (.int x2), .val (.int x3), .val (.int x4), .val (.int x5), .val (.int (1 : Int32)), .val (.int (1 : Int32)), .val (.int vb7), .val (.int vb8), .val (.int vk), .val (.int vc0), .val (.int vc1), .val (.int vd0), .val (.int vd1), .val (.int vp1), .val (.int vp2), .unset, .unset, .unset, .unset, .unset] [(.int vc1), (.int (1 : Int32)), (.ref b145), (.ref b145), (.ref b143), (.ref b143)])) _
        refine st151 _ ?_
        show Steps p.tables e below (T151.setTop (mkF m 167 #[.val (.int x1), .val (.int x2), .val (.int x3), .val (.int x4), .val (.int x5), .val (.int (1 : Int32)), .val (.int (1 : Int32)), .val (.int vb7), .val (.int vb8), .val (.int vk), .val (.int vc0), .val (.int vc1), .val (.int vd0), .val (.int vd1), .val (.int vp1), .val (.int vp2), .unset, .unset, .unset, .unset, .unset] [(.ref b145), (.ref b143), (.ref b143)])) _
        refine st153.trans ?_
        show Steps p.tables e below (T153.setTop (mkF m 170 #[.val (.int x1), .val (.int x2), .val (.int x3), .val (.int x4), .val (.int x5), .val (.int (1 : Int32)), .val (.int (1 : Int32)), .val (.int vb7), .val (.int vb8), .val (.int vk), .val (.int vc0), .val (.int vc1), .val (.int vd0), .val (.int vd1), .val (.int vp1), .val (.int vp2), .unset, .unset, .unset, .unset, .unset] [(.ref b143)])) _
        refine XS.goto X153.here hx rfl (pc0 := 170) (pc' := 188) rfl (hb hby at_170) (by decide) (by decide) ?_
        show Steps p.tables e below (T153.setTop (mkF m 188 #[.val (.int x1), .val (.int x2), .val (.int x3), .val (.int x4), .val (.int x5), .val (.int (1 : Int32)), .val (.int (1 : Int32)), .val (.int vb7), .val (.int vb8), .val (.int vk), .val (.int vc0), .val (.int vc1), .val (.int vd0), .val (.int vd1), .val (.int vp1), .val (.int vp2), .unset, .unset, .unset, .unset, .unset] [(.ref b143)])) _
        refine XS.astore X153.here hx rfl (hb hby at_188) rfl rfl (l' := #[.val (.int x1), .val (.int x2), .val (.int x3), .val (.int x4), .val (.int x5), .val (.int (1 : Int32)), .val (.int (1 : Int32)), .val (.int vb7), .val (.int vb8), .val (.int vk), .val (.int vc0), .val (.int vc1), .val (.int vd0), .val (.int vd1), .val (.int vp1), .val (.int vp2), .val (.ref b143), .unset, .unset, .unset, .unset]) rfl ?_
        show Steps p.tables e below (T153.setTop (mkF m 190 #[.val (.int x1), .val (.int x2), .val (.int x3), .val (.int x4), .val (.int x5), .val (.int (1 : Int32)), .val (.int (1 : Int32)), .val (.int vb7), .val (.int vb8), .val (.int vk), .val (.int vc0), .val (.int vc1), .val (.int vd0), .val (.int vd1), .val (.int vp1), .val (.int vp2), .val (.ref b143), .unset, .unset, .unset, .unset] [])) _
        refine XS.iload X153.here hx rfl (hb hby at_190) rfl ?_
        show Steps p.tables e below (T153.setTop (mkF m 192 #[.val (.int x1), .val (.int x2), .val (.int x3), .val (.int x4), .val (.int x5), .val (.int (1 : Int32)), .val (.int (1 : Int32)), .val (.int vb7), .val (.int vb8), .val (.int vk), .val (.int vc0), .val (.int vc1), .val (.int vd0), .val (.int vd1), .val (.int vp1), .val (.int vp2), .val (.ref b143), .unset, .unset, .unset, .unset] [(.int (1 : Int32))])) _
        refine XS.ifNo X153.here hx rfl (hb hby at_192) rfl ((if0 _ _).trans (feq (by decide : ¬ ((1 : Int32) = (0 : Int32)))).1) ?_
        show Steps p.tables e below (T153.setTop (mkF m 195 #[.val (.int x1), .val (.int x2), .val (.int x3), .val (.int x4), .val (.int x5), .val (.int (1 : Int32)), .val (.int (1 : Int32)), .val (.int vb7), .val (.int vb8), .val (.int vk), .val (.int vc0), .val (.int vc1), .val (.int vd0), .val (.int vd1), .val (.int vp1), .val (.int vp2), .val (.ref b143), .unset, .unset, .unset, .unset] [])) _
        refine st155 _ ?_
        show Steps p.tables e below (T155.setTop (mkF m 198 #[.val (.int x1), .val (.int x2), .val (.int x3), .val (.int x4), .val (.int x5), .val (.int (1 : Int32)), .val (.int (1 : Int32)), .val (.int vb7), .val (.int vb8), .val (.int vk), .val (.int vc0), .val (.int vc1), .val (.int vd0), .val (.int vd1), .val (.int vp1), .val (.int vp2), .val (.ref b143), .unset, .unset, .unset, .unset] [(.ref b155)])) _
        refine XS.dup X155.here hx rfl (hb hby at_198) rfl rfl ?_
        show Steps p.tables e below (T155.setTop (mkF m 199 #[.val (.int x1), .val (.int x2), .val (.int x3), .val (.int x4), .val (.int x5), .val (.int (1 : Int32)), .val (.int (1 : Int32)), .val (.int vb7), .val (.int vb8), .val (.int vk), .val (.int vc0), .val (.int vc1), .val (.int vd0), .val (.int vd1), .val (.int vp1), .val (.int vp2), .val (.ref b143), .unset, .unset, .unset, .unset] [(.ref b155), (.ref b155)])) _
        refine XS.iconst X155.here hx rfl (hb hby at_199) ?_
        show Steps p.tables e below (T155.setTop (mkF m 200 #[.val (.int x1), .val (.int x2), .val (.int x3), .val (.int x4), .val (.int x5), .val (.int (1 : Int32)), .val (.int (1 : Int32)), .val (.int vb7), .val (.int vb8), .val (.int vk), .val (.int vc0), .val (.int vc1), .val (.int vd0), .val (.int vd1), .val (.int vp1), .val (.int vp2), .val (.ref b143), .unset, .unset, .unset, .unset] [(.int (2 : Int32)), (.ref b155), (.ref b155)])) _
        refine st157 _ ?_
        show Steps p.tables e below (T157.setTop (mkF m 202 #[.val (.int x1), .val (.int x2), .val (.int x3), .val (.int x4), .val (.int x5), .val (.int (1 : Int32)), .val (.int (1 : Int32)), .val (.int vb7), .val (.int vb8), .val (.int vk), .val (.int vc0), .val (.int vc1), .val (.int vd0), .val (.int vd1), .val (.int vp1), .val (.int vp2), .val (.ref b143), .unset, .unset, .unset, .unset] [(.ref b157), (.ref b155), (.ref b155)])) _
        refine XS.dup X157.here hx rfl (hb hby at_202) rfl rfl ?_
        show Steps p.tables e below (T157.setTop (mkF m 203 #[.val (.int x1), .val (.int x2), .val (.int x3), .val (.int x4), .val (.int x5), .val (.int (1 : Int32)), .val (.int (1 : Int32)), .val (.int vb7), .val (.int vb8), .val (.int vk), .val (.int vc0), .val (.int vc1), .val (.int vd0), .val (.int vd1), .val (.int vp1), .val (.int vp2), .val (.ref b143), .unset, .unset, .unset, .unset] [(.ref b157), (.ref b157), (.ref b155), (.ref b155)])) _
        refine XS.iconst X157.here hx rfl (hb hby at_203) ?_
        show Steps p.tables e below (T157.setTop (mkF m 204 #[.val (.int x1), .val (.int x2), .val (.int x3), .val (.int x4), .val (.int x5), .val (.int (1 : Int32)), .val (.int (1 : Int32)), .val (.int vb7), .val (.int vb8), .val (.int vk), .val (.int vc0), .val (.int vc1), .val (.int vd0), .val (.int vd1), .val (.int vp1), .val (.int vp2), .val (.ref b143), .unset, .unset, .unset, .unset] [(.int (0 : Int32)), (.ref b157), (.ref b157), (.ref b155), (.ref b155)])) _
        refine XS.iload X157.here hx rfl (hb hby at_204) rfl ?_
        show Steps p.tables e below (T157.setTop (mkF m 206 #[.val (.int x1), .val (.int x2), .val (.int x3), .val (.int x4), .val (.int x5), .val (.int (1 : Int32)), .val (.int (1 : Int32)), .val (.int vb7), .val (.int vb8), .val (.int vk), .val (.int vc0), .val (.int vc1), .val (.int vd0), .val (.int vd1), .val (.int vp1), .val (.int vp2), .val (.ref b143), .unset, .unset, .unset, .unset] [(.int vd0), (.int (0 : Int32)), (.ref b157), (.ref b157), (.ref b155), (.ref b155)])) _
        refine st160 _ ?_
        show Steps p.tables e below (T160.setTop (mkF m 207 #[.val (.int x1), .val (.int x2), .val (.int x3), .val (.int x4), .val (.int x5), .val (.int (1 : Int32)), .val (.int (1 : Int32)), .val (.int vb7), .val (.int vb8), .val (.int vk), .val (.int vc0), .val (.int vc1), .val (.int vd0), .val (.int vd1), .val (.int vp1), .val (.int vp2), .val (.ref b143), .unset, .unset, .unset, .unset] [(.ref b157), (.ref b155), (.ref b155)])) _
        refine XS.dup X160.here hx rfl (hb hby at_207) rfl rfl ?_
        show Steps p.tables e below (T160.setTop (mkF m 208 #[.val (.int x1), .val (.int x2), .val (.int x3), .val (.int x4), .val (.int x5), .val (.int (1 : Int32)), .val (.int (1 : Int32)), .val (.int vb7), .val (.int vb8), .val (.int vk), .val (.int vc0), .val (.int vc1), .val (.int vd0), .val (.int vd1), .val (.int vp1), .val (.int vp2), .val (.ref b143), .unset, .unset, .unset, .unset] [(.ref b157), (.ref b157), (.ref b155), (.ref b155)])) _
        refine XS.iconst X160.here hx rfl (hb hby at_208) ?_
        show Steps p.tables e below (T160.setTop (mkF m 209 #[.val (.int x1), .val (.int x2), .val (.int x3), .val (.int x4), .val (.int x5), .val (.int (1 : Int32)), .val (.int (1 : Int32)), .val (.int vb7), .val (.int vb8), .val (.int vk), .val (.int vc0), .val (.int vc1), .val (.int vd0), .val (.int vd1), .val (.int vp1), .val (.int vp2), .val (.ref b143), .unset, .unset, .unset, .unset] [(.int (1 : Int32)), (.ref b157), (.ref b157), (.ref b155), (.ref b155)])) _
        refine XS.iload X160.here hx rfl (hb hby at_209) rfl ?_
        show Steps p.tables e below (T160.setTop (mkF m 211 #[.val (.int x1), .val (.int x2), .val (.int x3), .val (.int x4), .val (.int x5), .val (.int (1 : Int32)), .val (.int (1 : Int32)), .val (.int vb7), .val (.int vb8), .val (.int vk), .val (.int vc0), .val (.int vc1), .val (.int vd0), .val (.int vd1), .val (.int vp1), .val (.int vp2), .val (.ref b143), .unset, .unset, .unset, .unset] [(.int vd1), (.int (1 : Int32)), (.ref b157), (.ref b157), (.ref b155), (.ref b155)])) _
        refine st163 _ ?_
        show Steps p.tables e below (T163.setTop (mkF m 212 #[.val (.int x1), .val (.int x2), .val (.int x3), .val (.int x4), .val (.int x5), .val (.int (1 : Int32)), .val (.int (1 : Int32)), .val (.int vb7), .val (.int vb8), .val (.int vk), .val (.int vc0), .val (.int vc1), .val (.int vd0), .val (.int vd1), .val (.int vp1), .val (.int vp2), .val (.ref b143), .unset, .unset, .unset, .unset] [(.ref b157), (.ref b155), (.ref b155)])) _
        refine st165.trans ?_
        show Steps p.tables e below (T165.setTop (mkF m 215 #[.val (.int x1), .val (.int x2), .val (.int x3), .val (.int x4), .val (.int x5), .val (.int (1 : Int32)), .val (.int (1 : Int32)), .val (.int vb7), .val (.int vb8), .val (.int vk), .val (.int vc0), .val (.int vc1), .val (.int vd0), .val (.int vd1), .val (.int vp1), .val (.int vp2), .val (.ref b143), .unset, .unset, .unset, .unset] [(.ref b155)])) _
        refine XS.goto X165.here hx rfl (pc0 := 215) (pc' := 233) rfl (hb hby at_215) (by decide) (by decide) ?_
        show Steps p.tables e below (T165.setTop (mkF m 233 #[.val (.int x1), .val (.int x2), .val (.int x3), .val (.int x4), .val (.int x5), .val (.int (1 : Int32)), .val (.int (1 : Int32)), .val (.int vb7), .val (.int vb8), .val (.int vk), .val (.int vc0), .val (.int vc1), .val (.int vd0), .val (.int vd1), .val (.int vp1), .val (.int vp2), .val (.ref b143), .unset, .unset, .unset, .unset] [(.ref b155)])) _
        refine XS.astore X165.here hx rfl (hb hby at_233) rfl rfl (l' := #[.val (.int x1), .val (.int x2), .val (.int x3), .val (.int x4), .val (.int x5), .val (.int (1 : Int32)), .val (.int (1 : Int32)), .val (.int vb7), .val (.int vb8), .val (.int vk), .val (.int vc0), .val (.int vc1), .val (.int vd0), .val (.int vd1), .val (.int vp1), .val (.int vp2), .val (.ref b143), .val (.ref b155), .unset, .unset, .unset]) rfl ?_
        show Steps p.tables e below (T165.setTop (mkF m 235 #[.val (.int x1), .val (.int x2), .val (.int x3), .val (.int x4), .val (.int x5), .val (.int (1 : Int32)), .val (.int (1 : Int32)), .val (.int vb7), .val (.int vb8), .val (.int vk), .val (.int vc0), .val (.int vc1), .val (.int vd0), .val (.int vd1), .val (.int vp1), .val (.int vp2), .val (.ref b143), .val (.ref b155), .unset, .unset, .unset] [])) _
        refine st167 _ ?_
        show Steps p.tables e below (T167.setTop (mkF m 238 #[.val (.int x1), .val (.int x2), .val (.int x3), .val (.int x4), .val (.int x5), .val (.int (1 : Int32)), .val (.int (1 : Int32)), .val (.int vb7), .val (.int vb8), .val (.int vk), .val (.int vc0), .val (.int vc1), .val (.int vd0), .val (.int vd1), .val (.int vp1), .val (.int vp2), .val (.ref b143), .val (.ref b155), .unset, .unset, .unset] [(.ref b167)])) _
        refine XS.dup X167.here hx rfl (hb hby at_238) rfl rfl ?_
        show Steps p.tables e below (T167.setTop (mkF m 239 #[.val (.int x1), .val (.int x2), .val (.int x3), .val (.int x4), .val (.int x5), .val (.int (1 : Int32)), .val (.int (1 : Int32)), .val (.int vb7), .val (.int vb8), .val (.int vk), .val (.int vc0), .val (.int vc1), .val (.int vd0), .val (.int vd1), .val (.int vp1), .val (.int vp2), .val (.ref b143), .val (.ref b155), .unset, .unset, .unset] [(.ref b167), (.ref b167)])) _
        refine XS.aload X167.here hx rfl (hb hby at_239) rfl rfl ?_
        show Steps p.tables e below (T167.setTop (mkF m 241 #[.val (.int x1), .val (.int x2), .val (.int x3), .val (.int x4), .val (.int x5), .val (.int (1 : Int32)), .val (.int (1 : Int32)), .val (.int vb7), .val (.int vb8), .val (.int vk), .val (.int vc0), .val (.int vc1), .val (.int vd0), .val (.int vd1), .val (.int vp1), .val (.int vp2), .val (.ref b143), .val (.ref b155), .unset, .unset, .unset] [(.ref b143), (.ref b167), (.ref b167)])) _
        refine XS.iload X167.here hx rfl (hb hby at_241) rfl ?_
        show Steps p.tables e below (T167.setTop (mkF m 243 #[.val (.int x1), .val (.int x2), .val (.int x3), .val (.int x4), .val (.int x5), .val (.int (1 : Int32)), .val (.int (1 : Int32)), .val (.int vb7), .val (.int vb8), .val (.int vk), .val (.int vc0), .val (.int vc1), .val (.int vd0), .val (.int vd1), .val (.int vp1), .val (.int vp2), .val (.ref b143), .val (.ref b155), .unset, .unset, .unset] [(.int vp1), (.ref b143), (.ref b167), (.ref b167)])) _
        refine st169.trans ?_
        show Steps p.tables e below (T169.setTop (mkF m 246 #[.val (.int x1), .val (.int x2), .val (.int x3), .val (.int x4), .val (.int x5), .val (.int (1 : Int32)), .val (.int (1 : Int32)), .val (.int vb7), .val (.int vb8), .val (.int vk), .val (.int vc0), .val (.int vc1), .val (.int vd0), .val (.int vd1), .val (.int vp1), .val (.int vp2), .val (.ref b143), .val (.ref b155), .unset, .unset, .unset] [(.ref b167)])) _
        refine XS.astore X169.here hx rfl (hb hby at_246) rfl rfl (l' := #[.val (.int x1), .val (.int x2), .val (.int x3), .val (.int x4), .val (.int x5), .val (.int (1 : Int32)), .val (.int (1 : Int32)), .val (.int vb7), .val (.int vb8), .val (.int vk), .val (.int vc0), .val (.int vc1), .val (.int vd0), .val (.int vd1), .val (.int vp1), .val (.int vp2), .val (.ref b143), .val (.ref b155), .val (.ref b167), .unset, .unset]) rfl ?_
        show Steps p.tables e below (T169.setTop (mkF m 248 #[.val (.int x1), .val (.int x2), .val (.int x3), .val (.int x4), .val (.int x5), .val (.int (1 : Int32)), .val (.int (1 : Int32)), .val (.int vb7), .val (.int vb8), .val (.int vk), .val (.int vc0), .val (.int vc1), .val (.int vd0), .val (.int vd1), .val (.int vp1), .val (.int vp2), .val (.ref b143), .val (.ref b155), .val (.ref b167), .unset, .unset] [])) _
        refine st171 _ ?_
        show Steps p.tables e below (T171.setTop (mkF m 251 #[.val (.int x1), .val (.int x2), .val (.int x3), .val (.int x4), .val (.int x5), .val (.int (1 : Int32)), .val (.int (1 : Int32)), .val (.int vb7), .val (.int vb8), .val (.int vk), .val (.int vc0), .val (.int vc1), .val (.int vd0), .val (.int vd1), .val (.int vp1), .val (.int vp2), .val (.ref b143), .val (.ref b155), .val (.ref b167), .unset, .unset] [(.ref b171)])) _
        refine XS.dup X171.here hx rfl (hb hby at_251) rfl rfl ?_
        show Steps p.tables e below (T171.setTop (mkF m 252 #[.val (.int x1), .val (.int x2), .val (.int x3), .val (.int x4), .val (.int x5), .val (.int (1 : Int32)), .val (.int (1 : Int32)), .val (.int vb7), .val (.int vb8), .val (.int vk), .val (.int vc0), .val (.int vc1), .val (.int vd0), .val (.int vd1), .val (.int vp1), .val (.int vp2), .val (.ref b143), .val (.ref b155), .val (.ref b167), .unset, .unset] [(.ref b171), (.ref b171)])) _
        refine XS.aload X171.here hx rfl (hb hby at_252) rfl rfl ?_
        show Steps p.tables e below (T171.setTop (mkF m 254 #[.val (.int x1), .val (.int x2), .val (.int x3), .val (.int x4), .val (.int x5), .val (.int (1 : Int32)), .val (.int (1 : Int32)), .val (.int vb7), .val (.int vb8), .val (.int vk), .val (.int vc0), .val (.int vc1), .val (.int vd0), .val (.int vd1), .val (.int vp1), .val (.int vp2), .val (.ref b143), .val (.ref b155), .val (.ref b167), .unset, .unset] [(.ref b155), (.ref b171), (.ref b171)])) _
        refine XS.iload X171.here hx rfl (hb hby at_254) rfl ?_
        show Steps p.tables e below (T171.setTop (mkF m 256 #[.val (.int x1), .val (.int x2), .val (.int x3), .val (.int x4), .val (.int x5), .val (.int (1 : Int32)), .val (.int (1 : Int32)), .val (.int vb7), .val (.int vb8), .val (.int vk), .val (.int vc0), .val (.int vc1), .val (.int vd0), .val (.int vd1), .val (.int vp1), .val (.int vp2), .val (.ref b143), .val (.ref b155), .val (.ref b167), .unset, .unset] [(.int vp2), (.ref b155), (.ref b171), (.ref b171)])) _
        refine st173.trans ?_
        show Steps p.tables e below (T173.setTop (mkF m 259 #[.val (.int x1), .val (.int x2), .val (.int x3), .val (.int x4), .val (.int x5), .val (.int (1 : Int32)), .val (.int (1 : Int32)), .val (.int vb7), .val (.int vb8), .val (.int vk), .val (.int vc0), .val (.int vc1), .val (.int vd0), .val (.int vd1), .val (.int vp1), .val (.int vp2), .val (.ref b143), .val (.ref b155), .val (.ref b167), .unset, .unset] [(.ref b171)])) _
        refine XS.astore X173.here hx rfl (hb hby at_259) rfl rfl (l' := #[.val (.int x1), .val (.int x2), .val (.int x3), .val (.int x4), .val (.int x5), .val (.int (1 : Int32)), .val (.int (1 : Int32)), .val (.int vb7), .val (.int vb8), .val (.int vk), .val (.int vc0), .val (.int vc1), .val (.int vd0), .val (.int vd1), .val (.int vp1), .val (.int vp2), .val (.ref b143), .val (.ref b155), .val (.ref b167), .val (.ref b171), .unset]) rfl ?_
        show Steps p.tables e below (T173.setTop (mkF m 261 #[.val (.int x1), .val (.int x2), .val (.int x3), .val (.int x4), .val (.int x5), .val (.int (1 : Int32)), .val (.int (1 : Int32)), .val (.int vb7), .val (.int vb8), .val (.int vk), .val (.int vc0), .val (.int vc1), .val (.int vd0), .val (.int vd1), .val (.int vp1), .val (.int vp2), .val (.ref b143), .val (.ref b155), .val (.ref b167), .val (.ref b171), .unset] [])) _
        refine XS.iload X173.here hx rfl (hb hby at_261) rfl ?_
        show Steps p.tables e below (T173.setTop (mkF m 263 #[.val (.int x1), .val (.int x2), .val (.int x3), .val (.int x4), .val (.int x5), .val (.int (1 : Int32)), .val (.int (1 : Int32)), .val (.int vb7), .val (.int vb8), .val (.int vk), .val (.int vc0), .val (.int vc1), .val (.int vd0), .val (.int vd1), .val (.int vp1), .val (.int vp2), .val (.ref b143), .val (.ref b155), .val (.ref b167), .val (.ref b171), .unset] [(.int vk)])) _
        refine XS.iconst X173.here hx rfl (hb hby at_263) ?_
        show Steps p.tables e below (T173.setTop (mkF m 264 #[.val (.int x1), .val (.int x2), .val (.int x3), .val (.int x4), .val (.int x5), .val (.int (1 : Int32)), .val (.int (1 : Int32)), .val (.int vb7), .val (.int vb8), .val (.int vk), .val (.int vc0), .val (.int vc1), .val (.int vd0), .val (.int vd1), .val (.int vp1), .val (.int vp2), .val (.ref b143), .val (.ref b155), .val (.ref b167), .val (.ref b171), .unset] [(.int (1 : Int32)), (.int vk)])) _
        exact k)
      by_cases hc176 : vk = (1 : Int32)
      · skip
        obtain ⟨cq177, kq177, q177a, q177b, q177c⟩ := isOf hZ rfl Ee169
        obtain ⟨_, _, ⟨T177, L177, k177, n177⟩, -, X177, ⟨Lc177, hQ177, l177, y177, z177⟩, st177⟩ := X173.virtualBack hx (y := (⟨"com/example/vigilant_consumer/vigilantconsumer/TopicPartition", "equals", "(Ljava/lang/Object;)Z"⟩ : MethodName)) (z := (⟨"com/example/vigilant_consumer/vigilantconsumer/TopicPartition", "equals", "(Ljava/lang/Object;)Z"⟩ : MethodName)) hown (mvT hZ (hw _ (List.mem_of_getElem? (i := 59) rfl))) (mvT hZ (hw _ (List.mem_of_getElem? (i := 60) rfl))) (notFace_of_selects (args := #[]) (mvT hZ (hw _ (List.mem_of_getElem? (i := 62) rfl)))) (mvT hZ (hw _ (List.mem_of_getElem? (i := 62) rfl))) (mvT hZ (hw _ (List.mem_of_getElem? (i := 61) rfl))) (by decide) (backOf (W := 0) (own_teqN l Z a0 hw [] b167  T173.heap n0 Z174 ) hZ (hw _ (List.mem_of_getElem? (i := 63) rfl)) (hw _ (List.mem_of_getElem? (i := 33) rfl)) (by decide) (by decide)) q177a q177c (g := (mkF m 270 #[.val (.int x1), .val (.int x2), .val (.int x3), .val (.int x4), .val (.int x5), .val (.int (1 : Int32)), .val (.int (1 : Int32)), .val (.int vb7), .val (.int vb8), .val (.int vk), .val (.int vc0), .val (.int vc1), .val (.int vd0), .val (.int vd1), .val (.int vp1), .val (.int vp2), .val (.ref b143), .val (.ref b155), .val (.ref b167), .val (.ref b171), .unset] [.null, (.ref b167)])) rfl (by rw [hml]; rfl) (Steps.refl _) (argsL := [.null]) (rest := []) (lenOf own_pd8 rfl) rfl (by show 2 * 0 + _ ≤ _; exact Nat.le_of_eq rfl) (hb hby at_270) (fun _ _ => ⟨rfl, rfl, (by decide : 12 + 0 ≤ _), (by decide : 68 + 0 ≤ _)⟩)
        dsimp only [Pt.U, Pt.locs, Pt.cells, Pt.slots] at X177 l177 y177 z177 st177 hQ177
        subst l177 y177 z177
        obtain ⟨rfl, N177q, e177⟩ := hQ177
        have N177 := Fr.app N173 N177q
        obtain ⟨fs, hr, hrun, hended, hRW⟩ := X177.leaveW hS (by rw [e177]; exact hk) (v := some (.int (1 : Int32))) (fun h => by rw [Bd.returns] at h; cases h)
        refine ⟨_, _, pre175 _ ?_, hrun, hended, _, _, rfl, ?_, hRW.1, hRW.2.1, hRW.2.2.1, hRW.2.2.2.mono (by decide) (by decide)⟩
        · refine XS.icmpNo X173.here hx rfl (hb hby at_264) rfl (teq hc176).2 ?_
          show Steps p.tables e below (T173.setTop (mkF m 267 #[.val (.int x1), .val (.int x2), .val (.int x3), .val (.int x4), .val (.int x5), .val (.int (1 : Int32)), .val (.int (1 : Int32)), .val (.int vb7), .val (.int vb8), .val (.int vk), .val (.int vc0), .val (.int vc1), .val (.int vd0), .val (.int vd1), .val (.int vp1), .val (.int vp2), .val (.ref b143), .val (.ref b155), .val (.ref b167), .val (.ref b171), .unset] [])) _
          refine XS.aload X173.here hx rfl (hb hby at_267) rfl rfl ?_
          show Steps p.tables e below (T173.setTop (mkF m 269 #[.val (.int x1), .val (.int x2), .val (.int x3), .val (.int x4), .val (.int x5), .val (.int (1 : Int32)), .val (.int (1 : Int32)), .val (.int vb7), .val (.int vb8), .val (.int vk), .val (.int vc0), .val (.int vc1), .val (.int vd0), .val (.int vd1), .val (.int vp1), .val (.int vp2), .val (.ref b143), .val (.ref b155), .val (.ref b167), .val (.ref b171), .unset] [(.ref b167)])) _
          refine XS.aconstNull X173.here hx rfl (hb hby at_269) ?_
          show Steps p.tables e below (T173.setTop (mkF m 270 #[.val (.int x1), .val (.int x2), .val (.int x3), .val (.int x4), .val (.int x5), .val (.int (1 : Int32)), .val (.int (1 : Int32)), .val (.int vb7), .val (.int vb8), .val (.int vk), .val (.int vc0), .val (.int vc1), .val (.int vd0), .val (.int vd1), .val (.int vp1), .val (.int vp2), .val (.ref b143), .val (.ref b155), .val (.ref b167), .val (.ref b171), .unset] [.null, (.ref b167)])) _
          refine st177.trans ?_
          show Steps p.tables e below (T177.setTop (mkF m 273 #[.val (.int x1), .val (.int x2), .val (.int x3), .val (.int x4), .val (.int x5), .val (.int (1 : Int32)), .val (.int (1 : Int32)), .val (.int vb7), .val (.int vb8), .val (.int vk), .val (.int vc0), .val (.int vc1), .val (.int vd0), .val (.int vd1), .val (.int vp1), .val (.int vp2), .val (.ref b143), .val (.ref b155), .val (.ref b167), .val (.ref b171), .unset] [(.int (0 : Int32))])) _
          refine XS.ifNo X177.here hx rfl (hb hby at_273) rfl ((if0 _ _).trans (teq (by decide : (0 : Int32) = (0 : Int32))).2) ?_
          show Steps p.tables e below (T177.setTop (mkF m 276 #[.val (.int x1), .val (.int x2), .val (.int x3), .val (.int x4), .val (.int x5), .val (.int (1 : Int32)), .val (.int (1 : Int32)), .val (.int vb7), .val (.int vb8), .val (.int vk), .val (.int vc0), .val (.int vc1), .val (.int vd0), .val (.int vd1), .val (.int vp1), .val (.int vp2), .val (.ref b143), .val (.ref b155), .val (.ref b167), .val (.ref b171), .unset] [])) _
          refine XS.iconst X177.here hx rfl (hb hby at_276) ?_
          show Steps p.tables e below (T177.setTop (mkF m 277 #[.val (.int x1), .val (.int x2), .val (.int x3), .val (.int x4), .val (.int x5), .val (.int (1 : Int32)), .val (.int (1 : Int32)), .val (.int vb7), .val (.int vb8), .val (.int vk), .val (.int vc0), .val (.int vc1), .val (.int vd0), .val (.int vd1), .val (.int vp1), .val (.int vp2), .val (.ref b143), .val (.ref b155), .val (.ref b167), .val (.ref b171), .unset] [(.int (1 : Int32))])) _
          refine XS.goto X177.here hx rfl (pc0 := 277) (pc' := 281) rfl (hb hby at_277) (by decide) (by decide) ?_
          show Steps p.tables e below (T177.setTop (mkF m 281 #[.val (.int x1), .val (.int x2), .val (.int x3), .val (.int x4), .val (.int x5), .val (.int (1 : Int32)), .val (.int (1 : Int32)), .val (.int vb7), .val (.int vb8), .val (.int vk), .val (.int vc0), .val (.int vc1), .val (.int vd0), .val (.int vd1), .val (.int vp1), .val (.int vp2), .val (.ref b143), .val (.ref b155), .val (.ref b167), .val (.ref b171), .unset] [(.int (1 : Int32))])) _
          exact retN X177 hx (t := .boolean) Bd.returns (by simp) (hb hby at_281) hr
        · show own_Q_own_law Z x1 x2 x3 x4 x5 cz h0 n0 _ T177.heap _
          rw [e177]
          exact ⟨rfl, N177⟩
      · skip
        have pre178 : ∀ t, Steps p.tables e below (T173.setTop (mkF m 285 #[.val (.int x1), .val (.int x2), .val (.int x3), .val (.int x4), .val (.int x5), .val (.int (1 : Int32)), .val (.int (1 : Int32)), .val (.int vb7), .val (.int vb8), .val (.int vk), .val (.int vc0), .val (.int vc1), .val (.int vd0), .val (.int vd1), .val (.int vp1), .val (.int vp2), .val (.ref b143), .val (.ref b155), .val (.ref b167), .val (.ref b171), .unset] [(.int (2 : Int32)), (.int vk)])) t → Steps p.tables e below (s₁.setTop (entryFrame m #[(.int x1), (.int x2), (.int x3), (.int x4), (.int x5)] maxLocals)) t := fun t k => pre175 t (by
          refine XS.icmpYes X173.here hx rfl (pc0 := 264) (pc' := 282) rfl (hb hby at_264) rfl (feq hc176).2 (by decide) (by decide) ?_
          show Steps p.tables e below (T173.setTop (mkF m 282 #[.val (.int x1), .val (.int x2), .val (.int x3), .val (.int x4), .val (.int x5), .val (.int (1 : Int32)), .val (.int (1 : Int32)), .val (.int vb7), .val (.int vb8), .val (.int vk), .val (.int vc0), .val (.int vc1), .val (.int vd0), .val (.int vd1), .val (.int vp1), .val (.int vp2), .val (.ref b143), .val (.ref b155), .val (.ref b167), .val (.ref b171), .unset] [])) _
          refine XS.iload X173.here hx rfl (hb hby at_282) rfl ?_
          show Steps p.tables e below (T173.setTop (mkF m 284 #[.val (.int x1), .val (.int x2), .val (.int x3), .val (.int x4), .val (.int x5), .val (.int (1 : Int32)), .val (.int (1 : Int32)), .val (.int vb7), .val (.int vb8), .val (.int vk), .val (.int vc0), .val (.int vc1), .val (.int vd0), .val (.int vd1), .val (.int vp1), .val (.int vp2), .val (.ref b143), .val (.ref b155), .val (.ref b167), .val (.ref b171), .unset] [(.int vk)])) _
          refine XS.iconst X173.here hx rfl (hb hby at_284) ?_
          show Steps p.tables e below (T173.setTop (mkF m 285 #[.val (.int x1), .val (.int x2), .val (.int x3), .val (.int x4), .val (.int x5), .val (.int (1 : Int32)), .val (.int (1 : Int32)), .val (.int vb7), .val (.int vb8), .val (.int vk), .val (.int vc0), .val (.int vc1), .val (.int vd0), .val (.int vd1), .val (.int vp1), .val (.int vp2), .val (.ref b143), .val (.ref b155), .val (.ref b167), .val (.ref b171), .unset] [(.int (2 : Int32)), (.int vk)])) _
          exact k)
        by_cases hc179 : vk = (2 : Int32)
        · skip
          obtain ⟨cq180, kq180, q180a, q180b, q180c⟩ := isOf hZ rfl Ee169
          obtain ⟨_, _, ⟨T180, L180, k180, n180⟩, -, X180, ⟨Lc180, hQ180, l180, y180, z180⟩, st180⟩ := X173.virtualBack hx (y := (⟨"com/example/vigilant_consumer/vigilantconsumer/TopicPartition", "equals", "(Ljava/lang/Object;)Z"⟩ : MethodName)) (z := (⟨"com/example/vigilant_consumer/vigilantconsumer/TopicPartition", "equals", "(Ljava/lang/Object;)Z"⟩ : MethodName)) hown (mvT hZ (hw _ (List.mem_of_getElem? (i := 59) rfl))) (mvT hZ (hw _ (List.mem_of_getElem? (i := 60) rfl))) (notFace_of_selects (args := #[]) (mvT hZ (hw _ (List.mem_of_getElem? (i := 62) rfl)))) (mvT hZ (hw _ (List.mem_of_getElem? (i := 62) rfl))) (mvT hZ (hw _ (List.mem_of_getElem? (i := 61) rfl))) (by decide) (backOf (W := 0) (own_teqO l Z a0 hw [] b167 b143  T173.heap n0 Z174 Ee153) hZ (hw _ (List.mem_of_getElem? (i := 63) rfl)) (hw _ (List.mem_of_getElem? (i := 33) rfl)) (by decide) (by decide)) q180a q180c (g := (mkF m 292 #[.val (.int x1), .val (.int x2), .val (.int x3), .val (.int x4), .val (.int x5), .val (.int (1 : Int32)), .val (.int (1 : Int32)), .val (.int vb7), .val (.int vb8), .val (.int vk), .val (.int vc0), .val (.int vc1), .val (.int vd0), .val (.int vd1), .val (.int vp1), .val (.int vp2), .val (.ref b143), .val (.ref b155), .val (.ref b167), .val (.ref b171), .unset] [(.ref b143), (.ref b167)])) rfl (by rw [hml]; rfl) (Steps.refl _) (argsL := [(.ref b143)]) (rest := []) (lenOf own_pd8 rfl) rfl (by show 2 * 0 + _ ≤ _; exact Nat.le_of_eq rfl) (hb hby at_292) (fun _ _ => ⟨rfl, rfl, (by decide : 12 + 0 ≤ _), (by decide : 68 + 0 ≤ _)⟩)
          dsimp only [Pt.U, Pt.locs, Pt.cells, Pt.slots] at X180 l180 y180 z180 st180 hQ180
          subst l180 y180 z180
          obtain ⟨rfl, N180q, e180⟩ := hQ180
          have N180 := Fr.app N173 N180q
          obtain ⟨fs, hr, hrun, hended, hRW⟩ := X180.leaveW hS (by rw [e180]; exact hk) (v := some (.int (1 : Int32))) (fun h => by rw [Bd.returns] at h; cases h)
          refine ⟨_, _, pre178 _ ?_, hrun, hended, _, _, rfl, ?_, hRW.1, hRW.2.1, hRW.2.2.1, hRW.2.2.2.mono (by decide) (by decide)⟩
          · refine XS.icmpNo X173.here hx rfl (hb hby at_285) rfl (teq hc179).2 ?_
            show Steps p.tables e below (T173.setTop (mkF m 288 #[.val (.int x1), .val (.int x2), .val (.int x3), .val (.int x4), .val (.int x5), .val (.int (1 : Int32)), .val (.int (1 : Int32)), .val (.int vb7), .val (.int vb8), .val (.int vk), .val (.int vc0), .val (.int vc1), .val (.int vd0), .val (.int vd1), .val (.int vp1), .val (.int vp2), .val (.ref b143), .val (.ref b155), .val (.ref b167), .val (.ref b171), .unset] [])) _
            refine XS.aload X173.here hx rfl (hb hby at_288) rfl rfl ?_
            show Steps p.tables e below (T173.setTop (mkF m 290 #[.val (.int x1), .val (.int x2), .val (.int x3), .val (.int x4), .val (.int x5), .val (.int (1 : Int32)), .val (.int (1 : Int32)), .val (.int vb7), .val (.int vb8), .val (.int vk), .val (.int vc0), .val (.int vc1), .val (.int vd0), .val (.int vd1), .val (.int vp1), .val (.int vp2), .val (.ref b143), .val (.ref b155), .val (.ref b167), .val (.ref b171), .unset] [(.ref b167)])) _
            refine XS.aload X173.here hx rfl (hb hby at_290) rfl rfl ?_
            show Steps p.tables e below (T173.setTop (mkF m 292 #[.val (.int x1), .val (.int x2), .val (.int x3), .val (.int x4), .val (.int x5), .val (.int (1 : Int32)), .val (.int (1 : Int32)), .val (.int vb7), .val (.int vb8), .val (.int vk), .val (.int vc0), .val (.int vc1), .val (.int vd0), .val (.int vd1), .val (.int vp1), .val (.int vp2), .val (.ref b143), .val (.ref b155), .val (.ref b167), .val (.ref b171), .unset] [(.ref b143), (.ref b167)])) _
            refine st180.trans ?_
            show Steps p.tables e below (T180.setTop (mkF m 295 #[.val (.int x1), .val (.int x2), .val (.int x3), .val (.int x4), .val (.int x5), .val (.int (1 : Int32)), .val (.int (1 : Int32)), .val (.int vb7), .val (.int vb8), .val (.int vk), .val (.int vc0), .val (.int vc1), .val (.int vd0), .val (.int vd1), .val (.int vp1), .val (.int vp2), .val (.ref b143), .val (.ref b155), .val (.ref b167), .val (.ref b171), .unset] [(.int (0 : Int32))])) _
            refine XS.ifNo X180.here hx rfl (hb hby at_295) rfl ((if0 _ _).trans (teq (by decide : (0 : Int32) = (0 : Int32))).2) ?_
            show Steps p.tables e below (T180.setTop (mkF m 298 #[.val (.int x1), .val (.int x2), .val (.int x3), .val (.int x4), .val (.int x5), .val (.int (1 : Int32)), .val (.int (1 : Int32)), .val (.int vb7), .val (.int vb8), .val (.int vk), .val (.int vc0), .val (.int vc1), .val (.int vd0), .val (.int vd1), .val (.int vp1), .val (.int vp2), .val (.ref b143), .val (.ref b155), .val (.ref b167), .val (.ref b171), .unset] [])) _
            refine XS.iconst X180.here hx rfl (hb hby at_298) ?_
            show Steps p.tables e below (T180.setTop (mkF m 299 #[.val (.int x1), .val (.int x2), .val (.int x3), .val (.int x4), .val (.int x5), .val (.int (1 : Int32)), .val (.int (1 : Int32)), .val (.int vb7), .val (.int vb8), .val (.int vk), .val (.int vc0), .val (.int vc1), .val (.int vd0), .val (.int vd1), .val (.int vp1), .val (.int vp2), .val (.ref b143), .val (.ref b155), .val (.ref b167), .val (.ref b171), .unset] [(.int (1 : Int32))])) _
            refine XS.goto X180.here hx rfl (pc0 := 299) (pc' := 303) rfl (hb hby at_299) (by decide) (by decide) ?_
            show Steps p.tables e below (T180.setTop (mkF m 303 #[.val (.int x1), .val (.int x2), .val (.int x3), .val (.int x4), .val (.int x5), .val (.int (1 : Int32)), .val (.int (1 : Int32)), .val (.int vb7), .val (.int vb8), .val (.int vk), .val (.int vc0), .val (.int vc1), .val (.int vd0), .val (.int vd1), .val (.int vp1), .val (.int vp2), .val (.ref b143), .val (.ref b155), .val (.ref b167), .val (.ref b171), .unset] [(.int (1 : Int32))])) _
            exact retN X180 hx (t := .boolean) Bd.returns (by simp) (hb hby at_303) hr
          · show own_Q_own_law Z x1 x2 x3 x4 x5 cz h0 n0 _ T180.heap _
            rw [e180]
            exact ⟨rfl, N180⟩
        · skip
          have pre181 : ∀ t, Steps p.tables e below (T173.setTop (mkF m 307 #[.val (.int x1), .val (.int x2), .val (.int x3), .val (.int x4), .val (.int x5), .val (.int (1 : Int32)), .val (.int (1 : Int32)), .val (.int vb7), .val (.int vb8), .val (.int vk), .val (.int vc0), .val (.int vc1), .val (.int vd0), .val (.int vd1), .val (.int vp1), .val (.int vp2), .val (.ref b143), .val (.ref b155), .val (.ref b167), .val (.ref b171), .unset] [(.int (3 : Int32)), (.int vk)])) t → Steps p.tables e below (s₁.setTop (entryFrame m #[(.int x1), (.int x2), (.int x3), (.int x4), (.int x5)] maxLocals)) t := fun t k => pre178 t (by
            refine XS.icmpYes X173.here hx rfl (pc0 := 285) (pc' := 304) rfl (hb hby at_285) rfl (feq hc179).2 (by decide) (by decide) ?_
            show Steps p.tables e below (T173.setTop (mkF m 304 #[.val (.int x1), .val (.int x2), .val (.int x3), .val (.int x4), .val (.int x5), .val (.int (1 : Int32)), .val (.int (1 : Int32)), .val (.int vb7), .val (.int vb8), .val (.int vk), .val (.int vc0), .val (.int vc1), .val (.int vd0), .val (.int vd1), .val (.int vp1), .val (.int vp2), .val (.ref b143), .val (.ref b155), .val (.ref b167), .val (.ref b171), .unset] [])) _
            refine XS.iload X173.here hx rfl (hb hby at_304) rfl ?_
            show Steps p.tables e below (T173.setTop (mkF m 306 #[.val (.int x1), .val (.int x2), .val (.int x3), .val (.int x4), .val (.int x5), .val (.int (1 : Int32)), .val (.int (1 : Int32)), .val (.int vb7), .val (.int vb8), .val (.int vk), .val (.int vc0), .val (.int vc1), .val (.int vd0), .val (.int vd1), .val (.int vp1), .val (.int vp2), .val (.ref b143), .val (.ref b155), .val (.ref b167), .val (.ref b171), .unset] [(.int vk)])) _
            refine XS.iconst X173.here hx rfl (hb hby at_306) ?_
            show Steps p.tables e below (T173.setTop (mkF m 307 #[.val (.int x1), .val (.int x2), .val (.int x3), .val (.int x4), .val (.int x5), .val (.int (1 : Int32)), .val (.int (1 : Int32)), .val (.int vb7), .val (.int vb8), .val (.int vk), .val (.int vc0), .val (.int vc1), .val (.int vd0), .val (.int vd1), .val (.int vp1), .val (.int vp2), .val (.ref b143), .val (.ref b155), .val (.ref b167), .val (.ref b171), .unset] [(.int (3 : Int32)), (.int vk)])) _
            exact k)
          by_cases hc182 : vk = (3 : Int32)
          · skip
            obtain ⟨cq183, kq183, q183a, q183b, q183c⟩ := isOf hZ rfl Ee169
            obtain ⟨_, _, ⟨T183, L183, k183, n183⟩, -, X183, ⟨Lc183, hQ183, l183, y183, z183⟩, st183⟩ := X173.virtualBack hx (y := (⟨"com/example/vigilant_consumer/vigilantconsumer/TopicPartition", "equals", "(Ljava/lang/Object;)Z"⟩ : MethodName)) (z := (⟨"com/example/vigilant_consumer/vigilantconsumer/TopicPartition", "equals", "(Ljava/lang/Object;)Z"⟩ : MethodName)) hown (mvT hZ (hw _ (List.mem_of_getElem? (i := 59) rfl))) (mvT hZ (hw _ (List.mem_of_getElem? (i := 60) rfl))) (notFace_of_selects (args := #[]) (mvT hZ (hw _ (List.mem_of_getElem? (i := 62) rfl)))) (mvT hZ (hw _ (List.mem_of_getElem? (i := 62) rfl))) (mvT hZ (hw _ (List.mem_of_getElem? (i := 61) rfl))) (by decide) (backOf (W := 0) (own_teqS l Z a0 hw [] b167 b167 b143 vp1 T173.heap n0 Z174 Ee169 Ft169 Fp169 Ft169 Fp169 Ee153) hZ (hw _ (List.mem_of_getElem? (i := 63) rfl)) (hw _ (List.mem_of_getElem? (i := 33) rfl)) (by decide) (by decide)) q183a q183c (g := (mkF m 314 #[.val (.int x1), .val (.int x2), .val (.int x3), .val (.int x4), .val (.int x5), .val (.int (1 : Int32)), .val (.int (1 : Int32)), .val (.int vb7), .val (.int vb8), .val (.int vk), .val (.int vc0), .val (.int vc1), .val (.int vd0), .val (.int vd1), .val (.int vp1), .val (.int vp2), .val (.ref b143), .val (.ref b155), .val (.ref b167), .val (.ref b171), .unset] [(.ref b167), (.ref b167)])) rfl (by rw [hml]; rfl) (Steps.refl _) (argsL := [(.ref b167)]) (rest := []) (lenOf own_pd8 rfl) rfl (by show 2 * 0 + _ ≤ _; exact Nat.le_of_eq rfl) (hb hby at_314) (fun _ _ => ⟨rfl, rfl, (by decide : 12 + 0 ≤ _), (by decide : 68 + 0 ≤ _)⟩)
            dsimp only [Pt.U, Pt.locs, Pt.cells, Pt.slots] at X183 l183 y183 z183 st183 hQ183
            subst l183 y183 z183
            obtain ⟨rfl, N183q, e183⟩ := hQ183
            have N183 := Fr.app N173 N183q
            obtain ⟨fs, hr, hrun, hended, hRW⟩ := X183.leaveW hS (by rw [e183]; exact hk) (v := some (.int (1 : Int32))) (fun h => by rw [Bd.returns] at h; cases h)
            refine ⟨_, _, pre181 _ ?_, hrun, hended, _, _, rfl, ?_, hRW.1, hRW.2.1, hRW.2.2.1, hRW.2.2.2.mono (by decide) (by decide)⟩
            · refine XS.icmpNo X173.here hx rfl (hb hby at_307) rfl (teq hc182).2 ?_
              show Steps p.tables e below (T173.setTop (mkF m 310 #[.val (.int x1), .val (.int x2), .val (.int x3), .val (.int x4), .val (.int x5), .val (.int (1 : Int32)), .val (.int (1 : Int32)), .val (.int vb7), .val (.int vb8), .val (.int vk), .val (.int vc0), .val (.int vc1), .val (.int vd0), .val (.int vd1), .val (.int vp1), .val (.int vp2), .val (.ref b143), .val (.ref b155), .val (.ref b167), .val (.ref b171), .unset] [])) _
              refine XS.aload X173.here hx rfl (hb hby at_310) rfl rfl ?_
              show Steps p.tables e below (T173.setTop (mkF m 312 #[.val (.int x1), .val (.int x2), .val (.int x3), .val (.int x4), .val (.int x5), .val (.int (1 : Int32)), .val (.int (1 : Int32)), .val (.int vb7), .val (.int vb8), .val (.int vk), .val (.int vc0), .val (.int vc1), .val (.int vd0), .val (.int vd1), .val (.int vp1), .val (.int vp2), .val (.ref b143), .val (.ref b155), .val (.ref b167), .val (.ref b171), .unset] [(.ref b167)])) _
              refine XS.aload X173.here hx rfl (hb hby at_312) rfl rfl ?_
              show Steps p.tables e below (T173.setTop (mkF m 314 #[.val (.int x1), .val (.int x2), .val (.int x3), .val (.int x4), .val (.int x5), .val (.int (1 : Int32)), .val (.int (1 : Int32)), .val (.int vb7), .val (.int vb8), .val (.int vk), .val (.int vc0), .val (.int vc1), .val (.int vd0), .val (.int vd1), .val (.int vp1), .val (.int vp2), .val (.ref b143), .val (.ref b155), .val (.ref b167), .val (.ref b171), .unset] [(.ref b167), (.ref b167)])) _
              refine st183.trans ?_
              show Steps p.tables e below (T183.setTop (mkF m 317 #[.val (.int x1), .val (.int x2), .val (.int x3), .val (.int x4), .val (.int x5), .val (.int (1 : Int32)), .val (.int (1 : Int32)), .val (.int vb7), .val (.int vb8), .val (.int vk), .val (.int vc0), .val (.int vc1), .val (.int vd0), .val (.int vd1), .val (.int vp1), .val (.int vp2), .val (.ref b143), .val (.ref b155), .val (.ref b167), .val (.ref b171), .unset] [(.int (1 : Int32))])) _
              exact retN X183 hx (t := .boolean) Bd.returns (by simp) (hb hby at_317) hr
            · show own_Q_own_law Z x1 x2 x3 x4 x5 cz h0 n0 _ T183.heap _
              rw [e183]
              exact ⟨rfl, N183⟩
          · skip
            have pre187 : ∀ t, Steps p.tables e below (T173.setTop (mkF m 356 #[.val (.int x1), .val (.int x2), .val (.int x3), .val (.int x4), .val (.int x5), .val (.int (1 : Int32)), .val (.int (1 : Int32)), .val (.int vb7), .val (.int vb8), .val (.int vk), .val (.int vc0), .val (.int vc1), .val (.int vd0), .val (.int vd1), .val (.int vp1), .val (.int vp2), .val (.ref b143), .val (.ref b155), .val (.ref b167), .val (.ref b171), .unset] [(.int (if vp1 = vp2 then (if vc0 = vd0 then (if vc1 = vd1 then (1 : Int32) else (0 : Int32)) else (0 : Int32)) else (0 : Int32)))])) t → Steps p.tables e below (s₁.setTop (entryFrame m #[(.int x1), (.int x2), (.int x3), (.int x4), (.int x5)] maxLocals)) t := fun t k => pre181 t (by
              refine XS.icmpYes X173.here hx rfl (pc0 := 307) (pc' := 318) rfl (hb hby at_307) rfl (feq hc182).2 (by decide) (by decide) ?_
              show Steps p.tables e below (T173.setTop (mkF m 318 #[.val (.int x1), .val (.int x2), .val (.int x3), .val (.int x4), .val (.int x5), .val (.int (1 : Int32)), .val (.int (1 : Int32)), .val (.int vb7), .val (.int vb8), .val (.int vk), .val (.int vc0), .val (.int vc1), .val (.int vd0), .val (.int vd1), .val (.int vp1), .val (.int vp2), .val (.ref b143), .val (.ref b155), .val (.ref b167), .val (.ref b171), .unset] [])) _
              refine XS.iload X173.here hx rfl (hb hby at_318) rfl ?_
              show Steps p.tables e below (T173.setTop (mkF m 320 #[.val (.int x1), .val (.int x2), .val (.int x3), .val (.int x4), .val (.int x5), .val (.int (1 : Int32)), .val (.int (1 : Int32)), .val (.int vb7), .val (.int vb8), .val (.int vk), .val (.int vc0), .val (.int vc1), .val (.int vd0), .val (.int vd1), .val (.int vp1), .val (.int vp2), .val (.ref b143), .val (.ref b155), .val (.ref b167), .val (.ref b171), .unset] [(.int vp1)])) _
              refine XS.iload X173.here hx rfl (hb hby at_320) rfl ?_
              show Steps p.tables e below (T173.setTop (mkF m 322 #[.val (.int x1), .val (.int x2), .val (.int x3), .val (.int x4), .val (.int x5), .val (.int (1 : Int32)), .val (.int (1 : Int32)), .val (.int vb7), .val (.int vb8), .val (.int vk), .val (.int vc0), .val (.int vc1), .val (.int vd0), .val (.int vd1), .val (.int vp1), .val (.int vp2), .val (.ref b143), .val (.ref b155), .val (.ref b167), .val (.ref b171), .unset] [(.int vp2), (.int vp1)])) _
              by_cases hc184 : vp1 = vp2
              · skip
                refine XS.icmpNo X173.here hx rfl (hb hby at_322) rfl (teq hc184).2 ?_
                show Steps p.tables e below (T173.setTop (mkF m 325 #[.val (.int x1), .val (.int x2), .val (.int x3), .val (.int x4), .val (.int x5), .val (.int (1 : Int32)), .val (.int (1 : Int32)), .val (.int vb7), .val (.int vb8), .val (.int vk), .val (.int vc0), .val (.int vc1), .val (.int vd0), .val (.int vd1), .val (.int vp1), .val (.int vp2), .val (.ref b143), .val (.ref b155), .val (.ref b167), .val (.ref b171), .unset] [])) _
                refine XS.iload X173.here hx rfl (hb hby at_325) rfl ?_
                show Steps p.tables e below (T173.setTop (mkF m 327 #[.val (.int x1), .val (.int x2), .val (.int x3), .val (.int x4), .val (.int x5), .val (.int (1 : Int32)), .val (.int (1 : Int32)), .val (.int vb7), .val (.int vb8), .val (.int vk), .val (.int vc0), .val (.int vc1), .val (.int vd0), .val (.int vd1), .val (.int vp1), .val (.int vp2), .val (.ref b143), .val (.ref b155), .val (.ref b167), .val (.ref b171), .unset] [(.int (1 : Int32))])) _
                refine XS.iload X173.here hx rfl (hb hby at_327) rfl ?_
                show Steps p.tables e below (T173.setTop (mkF m 329 #[.val (.int x1), .val (.int x2), .val (.int x3), .val (.int x4), .val (.int x5), .val (.int (1 : Int32)), .val (.int (1 : Int32)), .val (.int vb7), .val (.int vb8), .val (.int vk), .val (.int vc0), .val (.int vc1), .val (.int vd0), .val (.int vd1), .val (.int vp1), .val (.int vp2), .val (.ref b143), .val (.ref b155), .val (.ref b167), .val (.ref b171), .unset] [(.int (1 : Int32)), (.int (1 : Int32))])) _
                refine XS.icmpNo X173.here hx rfl (hb hby at_329) rfl (teq (by decide : (1 : Int32) = (1 : Int32))).2 ?_
                show Steps p.tables e below (T173.setTop (mkF m 332 #[.val (.int x1), .val (.int x2), .val (.int x3), .val (.int x4), .val (.int x5), .val (.int (1 : Int32)), .val (.int (1 : Int32)), .val (.int vb7), .val (.int vb8), .val (.int vk), .val (.int vc0), .val (.int vc1), .val (.int vd0), .val (.int vd1), .val (.int vp1), .val (.int vp2), .val (.ref b143), .val (.ref b155), .val (.ref b167), .val (.ref b171), .unset] [])) _
                refine XS.iload X173.here hx rfl (hb hby at_332) rfl ?_
                show Steps p.tables e below (T173.setTop (mkF m 334 #[.val (.int x1), .val (.int x2), .val (.int x3), .val (.int x4), .val (.int x5), .val (.int (1 : Int32)), .val (.int (1 : Int32)), .val (.int vb7), .val (.int vb8), .val (.int vk), .val (.int vc0), .val (.int vc1), .val (.int vd0), .val (.int vd1), .val (.int vp1), .val (.int vp2), .val (.ref b143), .val (.ref b155), .val (.ref b167), .val (.ref b171), .unset] [(.int vc0)])) _
                refine XS.iload X173.here hx rfl (hb hby at_334) rfl ?_
                show Steps p.tables e below (T173.setTop (mkF m 336 #[.val (.int x1), .val (.int x2), .val (.int x3), .val (.int x4), .val (.int x5), .val (.int (1 : Int32)), .val (.int (1 : Int32)), .val (.int vb7), .val (.int vb8), .val (.int vk), .val (.int vc0), .val (.int vc1), .val (.int vd0), .val (.int vd1), .val (.int vp1), .val (.int vp2), .val (.ref b143), .val (.ref b155), .val (.ref b167), .val (.ref b171), .unset] [(.int vd0), (.int vc0)])) _
                by_cases hc185 : vc0 = vd0
                · skip
                  refine XS.icmpNo X173.here hx rfl (hb hby at_336) rfl (teq hc185).2 ?_
                  show Steps p.tables e below (T173.setTop (mkF m 339 #[.val (.int x1), .val (.int x2), .val (.int x3), .val (.int x4), .val (.int x5), .val (.int (1 : Int32)), .val (.int (1 : Int32)), .val (.int vb7), .val (.int vb8), .val (.int vk), .val (.int vc0), .val (.int vc1), .val (.int vd0), .val (.int vd1), .val (.int vp1), .val (.int vp2), .val (.ref b143), .val (.ref b155), .val (.ref b167), .val (.ref b171), .unset] [])) _
                  refine XS.iload X173.here hx rfl (hb hby at_339) rfl ?_
                  show Steps p.tables e below (T173.setTop (mkF m 341 #[.val (.int x1), .val (.int x2), .val (.int x3), .val (.int x4), .val (.int x5), .val (.int (1 : Int32)), .val (.int (1 : Int32)), .val (.int vb7), .val (.int vb8), .val (.int vk), .val (.int vc0), .val (.int vc1), .val (.int vd0), .val (.int vd1), .val (.int vp1), .val (.int vp2), .val (.ref b143), .val (.ref b155), .val (.ref b167), .val (.ref b171), .unset] [(.int (1 : Int32))])) _
                  refine XS.ifNo X173.here hx rfl (hb hby at_341) rfl ((if0 _ _).trans (feq (by decide : ¬ ((1 : Int32) = (0 : Int32)))).1) ?_
                  show Steps p.tables e below (T173.setTop (mkF m 344 #[.val (.int x1), .val (.int x2), .val (.int x3), .val (.int x4), .val (.int x5), .val (.int (1 : Int32)), .val (.int (1 : Int32)), .val (.int vb7), .val (.int vb8), .val (.int vk), .val (.int vc0), .val (.int vc1), .val (.int vd0), .val (.int vd1), .val (.int vp1), .val (.int vp2), .val (.ref b143), .val (.ref b155), .val (.ref b167), .val (.ref b171), .unset] [])) _
                  refine XS.iload X173.here hx rfl (hb hby at_344) rfl ?_
                  show Steps p.tables e below (T173.setTop (mkF m 346 #[.val (.int x1), .val (.int x2), .val (.int x3), .val (.int x4), .val (.int x5), .val (.int (1 : Int32)), .val (.int (1 : Int32)), .val (.int vb7), .val (.int vb8), .val (.int vk), .val (.int vc0), .val (.int vc1), .val (.int vd0), .val (.int vd1), .val (.int vp1), .val (.int vp2), .val (.ref b143), .val (.ref b155), .val (.ref b167), .val (.ref b171), .unset] [(.int vc1)])) _
                  refine XS.iload X173.here hx rfl (hb hby at_346) rfl ?_
                  show Steps p.tables e below (T173.setTop (mkF m 348 #[.val (.int x1), .val (.int x2), .val (.int x3), .val (.int x4), .val (.int x5), .val (.int (1 : Int32)), .val (.int (1 : Int32)), .val (.int vb7), .val (.int vb8), .val (.int vk), .val (.int vc0), .val (.int vc1), .val (.int vd0), .val (.int vd1), .val (.int vp1), .val (.int vp2), .val (.ref b143), .val (.ref b155), .val (.ref b167), .val (.ref b171), .unset] [(.int vd1), (.int vc1)])) _
                  by_cases hc186 : vc1 = vd1
                  · skip
                    refine XS.icmpNo X173.here hx rfl (hb hby at_348) rfl (teq hc186).2 ?_
                    show Steps p.tables e below (T173.setTop (mkF m 351 #[.val (.int x1), .val (.int x2), .val (.int x3), .val (.int x4), .val (.int x5), .val (.int (1 : Int32)), .val (.int (1 : Int32)), .val (.int vb7), .val (.int vb8), .val (.int vk), .val (.int vc0), .val (.int vc1), .val (.int vd0), .val (.int vd1), .val (.int vp1), .val (.int vp2), .val (.ref b143), .val (.ref b155), .val (.ref b167), .val (.ref b171), .unset] [])) _
                    refine XS.iconst X173.here hx rfl (hb hby at_351) ?_
                    show Steps p.tables e below (T173.setTop (mkF m 352 #[.val (.int x1), .val (.int x2), .val (.int x3), .val (.int x4), .val (.int x5), .val (.int (1 : Int32)), .val (.int (1 : Int32)), .val (.int vb7), .val (.int vb8), .val (.int vk), .val (.int vc0), .val (.int vc1), .val (.int vd0), .val (.int vd1), .val (.int vp1), .val (.int vp2), .val (.ref b143), .val (.ref b155), .val (.ref b167), .val (.ref b171), .unset] [(.int (1 : Int32))])) _
                    refine XS.goto X173.here hx rfl (pc0 := 352) (pc' := 356) rfl (hb hby at_352) (by decide) (by decide) ?_
                    exact castTop (congrArg (fun z_ => (mkF m 356 #[.val (.int x1), .val (.int x2), .val (.int x3), .val (.int x4), .val (.int x5), .val (.int (1 : Int32)), .val (.int (1 : Int32)), .val (.int vb7), .val (.int vb8), .val (.int vk), .val (.int vc0), .val (.int vc1), .val (.int vd0), .val (.int vd1), .val (.int vp1), .val (.int vp2), .val (.ref b143), .val (.ref b155), .val (.ref b167), .val (.ref b171), .unset] [(.int z_)])) (show (1 : Int32) = (if vp1 = vp2 then (if vc0 = vd0 then (if vc1 = vd1 then (1 : Int32) else (0 : Int32)) else (0 : Int32)) else (0 : Int32)) from by rw [if_pos hc184, if_pos hc185, if_pos hc186])) k
                  · skip
                    refine XS.icmpYes X173.here hx rfl (pc0 := 348) (pc' := 355) rfl (hb hby at_348) rfl (feq hc186).2 (by decide) (by decide) ?_
                    show Steps p.tables e below (T173.setTop (mkF m 355 #[.val (.int x1), .val (.int x2), .val (.int x3), .val (.int x4), .val (.int x5), .val (.int (1 : Int32)), .val (.int (1 : Int32)), .val (.int vb7), .val (.int vb8), .val (.int vk), .val (.int vc0), .val (.int vc1), .val (.int vd0), .val (.int vd1), .val (.int vp1), .val (.int vp2), .val (.ref b143), .val (.ref b155), .val (.ref b167), .val (.ref b171), .unset] [])) _
                    refine XS.iconst X173.here hx rfl (hb hby at_355) ?_
                    exact castTop (congrArg (fun z_ => (mkF m 356 #[.val (.int x1), .val (.int x2), .val (.int x3), .val (.int x4), .val (.int x5), .val (.int (1 : Int32)), .val (.int (1 : Int32)), .val (.int vb7), .val (.int vb8), .val (.int vk), .val (.int vc0), .val (.int vc1), .val (.int vd0), .val (.int vd1), .val (.int vp1), .val (.int vp2), .val (.ref b143), .val (.ref b155), .val (.ref b167), .val (.ref b171), .unset] [(.int z_)])) (show (0 : Int32) = (if vp1 = vp2 then (if vc0 = vd0 then (if vc1 = vd1 then (1 : Int32) else (0 : Int32)) else (0 : Int32)) else (0 : Int32)) from by rw [if_pos hc184, if_pos hc185, if_neg hc186])) k
                · skip
                  refine XS.icmpYes X173.here hx rfl (pc0 := 336) (pc' := 355) rfl (hb hby at_336) rfl (feq hc185).2 (by decide) (by decide) ?_
                  show Steps p.tables e below (T173.setTop (mkF m 355 #[.val (.int x1), .val (.int x2), .val (.int x3), .val (.int x4), .val (.int x5), .val (.int (1 : Int32)), .val (.int (1 : Int32)), .val (.int vb7), .val (.int vb8), .val (.int vk), .val (.int vc0), .val (.int vc1), .val (.int vd0), .val (.int vd1), .val (.int vp1), .val (.int vp2), .val (.ref b143), .val (.ref b155), .val (.ref b167), .val (.ref b171), .unset] [])) _
                  refine XS.iconst X173.here hx rfl (hb hby at_355) ?_
                  exact castTop (congrArg (fun z_ => (mkF m 356 #[.val (.int x1), .val (.int x2), .val (.int x3), .val (.int x4), .val (.int x5), .val (.int (1 : Int32)), .val (.int (1 : Int32)), .val (.int vb7), .val (.int vb8), .val (.int vk), .val (.int vc0), .val (.int vc1), .val (.int vd0), .val (.int vd1), .val (.int vp1), .val (.int vp2), .val (.ref b143), .val (.ref b155), .val (.ref b167), .val (.ref b171), .unset] [(.int z_)])) (show (0 : Int32) = (if vp1 = vp2 then (if vc0 = vd0 then (if vc1 = vd1 then (1 : Int32) else (0 : Int32)) else (0 : Int32)) else (0 : Int32)) from by rw [if_pos hc184, if_neg hc185])) k
              · skip
                refine XS.icmpYes X173.here hx rfl (pc0 := 322) (pc' := 355) rfl (hb hby at_322) rfl (feq hc184).2 (by decide) (by decide) ?_
                show Steps p.tables e below (T173.setTop (mkF m 355 #[.val (.int x1), .val (.int x2), .val (.int x3), .val (.int x4), .val (.int x5), .val (.int (1 : Int32)), .val (.int (1 : Int32)), .val (.int vb7), .val (.int vb8), .val (.int vk), .val (.int vc0), .val (.int vc1), .val (.int vd0), .val (.int vd1), .val (.int vp1), .val (.int vp2), .val (.ref b143), .val (.ref b155), .val (.ref b167), .val (.ref b171), .unset] [])) _
                refine XS.iconst X173.here hx rfl (hb hby at_355) ?_
                exact castTop (congrArg (fun z_ => (mkF m 356 #[.val (.int x1), .val (.int x2), .val (.int x3), .val (.int x4), .val (.int x5), .val (.int (1 : Int32)), .val (.int (1 : Int32)), .val (.int vb7), .val (.int vb8), .val (.int vk), .val (.int vc0), .val (.int vc1), .val (.int vd0), .val (.int vd1), .val (.int vp1), .val (.int vp2), .val (.ref b143), .val (.ref b155), .val (.ref b167), .val (.ref b171), .unset] [(.int z_)])) (show (0 : Int32) = (if vp1 = vp2 then (if vc0 = vd0 then (if vc1 = vd1 then (1 : Int32) else (0 : Int32)) else (0 : Int32)) else (0 : Int32)) from by rw [if_neg hc184])) k)
            obtain ⟨cq188, kq188, q188a, q188b, q188c⟩ := isOf hZ rfl Ee169
            obtain ⟨_, _, ⟨T188, L188, k188, n188⟩, -, X188, ⟨Lc188, hQ188, l188, y188, z188⟩, st188⟩ := X173.virtualBack hx (y := (⟨"com/example/vigilant_consumer/vigilantconsumer/TopicPartition", "equals", "(Ljava/lang/Object;)Z"⟩ : MethodName)) (z := (⟨"com/example/vigilant_consumer/vigilantconsumer/TopicPartition", "equals", "(Ljava/lang/Object;)Z"⟩ : MethodName)) hown (mvT hZ (hw _ (List.mem_of_getElem? (i := 59) rfl))) (mvT hZ (hw _ (List.mem_of_getElem? (i := 60) rfl))) (notFace_of_selects (args := #[]) (mvT hZ (hw _ (List.mem_of_getElem? (i := 62) rfl)))) (mvT hZ (hw _ (List.mem_of_getElem? (i := 62) rfl))) (mvT hZ (hw _ (List.mem_of_getElem? (i := 61) rfl))) (by decide) (backOf (W := 0) (own_teq22 l Z a0 hw [] b167 b171 b143 b155 vp1 vp2 b153 b165 kb153 kb165 cz ((vc0).toInt8.toInt32) ((vc1).toInt8.toInt32) ((vd0).toInt8.toInt32) ((vd1).toInt8.toInt32) T173.heap n0 Z174 Ee173 Ft169 Fp169 Ft173 Fp173 Ee153 Fc153 Fv153 VB153 Ee165 Fc165 Fv165 VB165 ne_b143_b155 (S0.ext O.2) hcz) hZ (hw _ (List.mem_of_getElem? (i := 63) rfl)) (hw _ (List.mem_of_getElem? (i := 33) rfl)) (by decide) (by decide)) q188a q188c (g := (mkF m 362 #[.val (.int x1), .val (.int x2), .val (.int x3), .val (.int x4), .val (.int x5), .val (.int (1 : Int32)), .val (.int (1 : Int32)), .val (.int vb7), .val (.int vb8), .val (.int vk), .val (.int vc0), .val (.int vc1), .val (.int vd0), .val (.int vd1), .val (.int vp1), .val (.int vp2), .val (.ref b143), .val (.ref b155), .val (.ref b167), .val (.ref b171), .val (.int (if vp1 = vp2 then (if vc0 = vd0 then (if vc1 = vd1 then (1 : Int32) else (0 : Int32)) else (0 : Int32)) else (0 : Int32)))] [(.ref b171), (.ref b167)])) rfl (by rw [hml]; rfl) (Steps.refl _) (argsL := [(.ref b171)]) (rest := []) (lenOf own_pd8 rfl) rfl (by show 2 * 0 + _ ≤ _; exact Nat.le_of_eq rfl) (hb hby at_362) (fun _ _ => ⟨rfl, rfl, (by decide : 12 + 0 ≤ _), (by decide : 68 + 0 ≤ _)⟩)
            dsimp only [Pt.U, Pt.locs, Pt.cells, Pt.slots] at X188 l188 y188 z188 st188 hQ188
            subst l188 y188 z188
            obtain ⟨rfl, N188q, e188⟩ := hQ188
            have N188 := Fr.app N173 N188q
            obtain ⟨cq189, kq189, q189a, q189b, q189c⟩ := isOf hZ e188 Ee173
            obtain ⟨_, _, ⟨T189, L189, k189, n189⟩, -, X189, ⟨Lc189, hQ189, l189, y189, z189⟩, st189⟩ := X188.virtualBack hx (y := (⟨"com/example/vigilant_consumer/vigilantconsumer/TopicPartition", "equals", "(Ljava/lang/Object;)Z"⟩ : MethodName)) (z := (⟨"com/example/vigilant_consumer/vigilantconsumer/TopicPartition", "equals", "(Ljava/lang/Object;)Z"⟩ : MethodName)) hown (mvT hZ (hw _ (List.mem_of_getElem? (i := 59) rfl))) (mvT hZ (hw _ (List.mem_of_getElem? (i := 60) rfl))) (notFace_of_selects (args := #[]) (mvT hZ (hw _ (List.mem_of_getElem? (i := 62) rfl)))) (mvT hZ (hw _ (List.mem_of_getElem? (i := 62) rfl))) (mvT hZ (hw _ (List.mem_of_getElem? (i := 61) rfl))) (by decide) (backOf (W := 0) (own_teq22 l Z a0 hw [] b171 b167 b155 b143 vp2 vp1 b165 b153 kb165 kb153 cz ((vd0).toInt8.toInt32) ((vd1).toInt8.toInt32) ((vc0).toInt8.toInt32) ((vc1).toInt8.toInt32) T173.heap n0 Z174 Ee169 Ft173 Fp173 Ft169 Fp169 Ee165 Fc165 Fv165 VB165 Ee153 Fc153 Fv153 VB153 (Ne.symm ne_b143_b155) (S0.ext O.2) hcz) hZ (hw _ (List.mem_of_getElem? (i := 63) rfl)) (hw _ (List.mem_of_getElem? (i := 33) rfl)) (by decide) (by decide)) q189a q189c (g := (mkF m 374 #[.val (.int x1), .val (.int x2), .val (.int x3), .val (.int x4), .val (.int x5), .val (.int (1 : Int32)), .val (.int (1 : Int32)), .val (.int vb7), .val (.int vb8), .val (.int vk), .val (.int vc0), .val (.int vc1), .val (.int vd0), .val (.int vd1), .val (.int vp1), .val (.int vp2), .val (.ref b143), .val (.ref b155), .val (.ref b167), .val (.ref b171), .val (.int (if vp1 = vp2 then (if vc0 = vd0 then (if vc1 = vd1 then (1 : Int32) else (0 : Int32)) else (0 : Int32)) else (0 : Int32)))] [(.ref b167), (.ref b171)])) rfl (by rw [hml]; rfl) (Steps.refl _) (argsL := [(.ref b167)]) (rest := []) (lenOf own_pd8 rfl) rfl (by show 2 * 0 + _ ≤ _; exact Nat.le_of_eq rfl) (hb hby at_374) (fun _ _ => ⟨rfl, e188, (by decide : 12 + 0 ≤ _), (by decide : 68 + 0 ≤ _)⟩)
            dsimp only [Pt.U, Pt.locs, Pt.cells, Pt.slots] at X189 l189 y189 z189 st189 hQ189
            subst l189 y189 z189
            obtain ⟨rfl, N189q, e189⟩ := hQ189
            have N189 := Fr.app N188 N189q
            obtain ⟨fs, hr, hrun, hended, hRW⟩ := X189.leaveW hS (by rw [e189]; exact hk) (v := some (.int (1 : Int32))) (fun h => by rw [Bd.returns] at h; cases h)
            refine ⟨_, _, pre187 _ ?_, hrun, hended, _, _, rfl, ?_, hRW.1, hRW.2.1, hRW.2.2.1, hRW.2.2.2.mono (by decide) (by decide)⟩
            · show Steps p.tables e below (T173.setTop (mkF m 356 #[.val (.int x1), .val (.int x2), .val (.int x3), .val (.int x4), .val (.int x5), .val (.int (1 : Int32)), .val (.int (1 : Int32)), .val (.int vb7), .val (.int vb8), .val (.int vk), .val (.int vc0), .val (.int vc1), .val (.int vd0), .val (.int vd1), .val (.int vp1), .val (.int vp2), .val (.ref b143), .val (.ref b155), .val (.ref b167), .val (.ref b171), .unset] [(.int (if vp1 = vp2 then (if vc0 = vd0 then (if vc1 = vd1 then (1 : Int32) else (0 : Int32)) else (0 : Int32)) else (0 : Int32)))])) _
              refine XS.istore X173.here hx rfl (hb hby at_356) rfl (l' := #[.val (.int x1), .val (.int x2), .val (.int x3), .val (.int x4), .val (.int x5), .val (.int (1 : Int32)), .val (.int (1 : Int32)), .val (.int vb7), .val (.int vb8), .val (.int vk), .val (.int vc0), .val (.int vc1), .val (.int vd0), .val (.int vd1), .val (.int vp1), .val (.int vp2), .val (.ref b143), .val (.ref b155), .val (.ref b167), .val (.ref b171), .val (.int (if vp1 = vp2 then (if vc0 = vd0 then (if vc1 = vd1 then (1 : Int32) else (0 : Int32)) else (0 : Int32)) else (0 : Int32)))]) rfl ?_
              show Steps p.tables e below (T173.setTop (mkF m 358 #[.val (.int x1), .val (.int x2), .val (.int x3), .val (.int x4), .val (.int x5), .val (.int (1 : Int32)), .val (.int (1 : Int32)), .val (.int vb7), .val (.int vb8), .val (.int vk), .val (.int vc0), .val (.int vc1), .val (.int vd0), .val (.int vd1), .val (.int vp1), .val (.int vp2), .val (.ref b143), .val (.ref b155), .val (.ref b167), .val (.ref b171), .val (.int (if vp1 = vp2 then (if vc0 = vd0 then (if vc1 = vd1 then (1 : Int32) else (0 : Int32)) else (0 : Int32)) else (0 : Int32)))] [])) _
              refine XS.aload X173.here hx rfl (hb hby at_358) rfl rfl ?_
              show Steps p.tables e below (T173.setTop (mkF m 360 #[.val (.int x1), .val (.int x2), .val (.int x3), .val (.int x4), .val (.int x5), .val (.int (1 : Int32)), .val (.int (1 : Int32)), .val (.int vb7), .val (.int vb8), .val (.int vk), .val (.int vc0), .val (.int vc1), .val (.int vd0), .val (.int vd1), .val (.int vp1), .val (.int vp2), .val (.ref b143), .val (.ref b155), .val (.ref b167), .val (.ref b171), .val (.int (if vp1 = vp2 then (if vc0 = vd0 then (if vc1 = vd1 then (1 : Int32) else (0 : Int32)) else (0 : Int32)) else (0 : Int32)))] [(.ref b167)])) _
              refine XS.aload X173.here hx rfl (hb hby at_360) rfl rfl ?_
              show Steps p.tables e below (T173.setTop (mkF m 362 #[.val (.int x1), .val (.int x2), .val (.int x3), .val (.int x4), .val (.int x5), .val (.int (1 : Int32)), .val (.int (1 : Int32)), .val (.int vb7), .val (.int vb8), .val (.int vk), .val (.int vc0), .val (.int vc1), .val (.int vd0), .val (.int vd1), .val (.int vp1), .val (.int vp2), .val (.ref b143), .val (.ref b155), .val (.ref b167), .val (.ref b171), .val (.int (if vp1 = vp2 then (if vc0 = vd0 then (if vc1 = vd1 then (1 : Int32) else (0 : Int32)) else (0 : Int32)) else (0 : Int32)))] [(.ref b171), (.ref b167)])) _
              refine st188.trans ?_
              show Steps p.tables e below (T188.setTop (mkF m 365 #[.val (.int x1), .val (.int x2), .val (.int x3), .val (.int x4), .val (.int x5), .val (.int (1 : Int32)), .val (.int (1 : Int32)), .val (.int vb7), .val (.int vb8), .val (.int vk), .val (.int vc0), .val (.int vc1), .val (.int vd0), .val (.int vd1), .val (.int vp1), .val (.int vp2), .val (.ref b143), .val (.ref b155), .val (.ref b167), .val (.ref b171), .val (.int (if vp1 = vp2 then (if vc0 = vd0 then (if vc1 = vd1 then (1 : Int32) else (0 : Int32)) else (0 : Int32)) else (0 : Int32)))] [(.int (if vp1 = vp2 ∧ (((vc0).toInt8.toInt32) = ((vd0).toInt8.toInt32) ∧ ((vc1).toInt8.toInt32) = ((vd1).toInt8.toInt32)) then (1 : Int32) else (0 : Int32)))])) _
              refine XS.iload X188.here hx rfl (hb hby at_365) rfl ?_
              show Steps p.tables e below (T188.setTop (mkF m 367 #[.val (.int x1), .val (.int x2), .val (.int x3), .val (.int x4), .val (.int x5), .val (.int (1 : Int32)), .val (.int (1 : Int32)), .val (.int vb7), .val (.int vb8), .val (.int vk), .val (.int vc0), .val (.int vc1), .val (.int vd0), .val (.int vd1), .val (.int vp1), .val (.int vp2), .val (.ref b143), .val (.ref b155), .val (.ref b167), .val (.ref b171), .val (.int (if vp1 = vp2 then (if vc0 = vd0 then (if vc1 = vd1 then (1 : Int32) else (0 : Int32)) else (0 : Int32)) else (0 : Int32)))] [(.int (if vp1 = vp2 then (if vc0 = vd0 then (if vc1 = vd1 then (1 : Int32) else (0 : Int32)) else (0 : Int32)) else (0 : Int32))), (.int (if vp1 = vp2 ∧ (((vc0).toInt8.toInt32) = ((vd0).toInt8.toInt32) ∧ ((vc1).toInt8.toInt32) = ((vd1).toInt8.toInt32)) then (1 : Int32) else (0 : Int32)))])) _
              refine XS.icmpNo X188.here hx rfl (hb hby at_367) rfl (teq (own_f2 Bvc0 Bvd0 Bvc1 Bvd1 : (if vp1 = vp2 ∧ (((vc0).toInt8.toInt32) = ((vd0).toInt8.toInt32) ∧ ((vc1).toInt8.toInt32) = ((vd1).toInt8.toInt32)) then (1 : Int32) else (0 : Int32)) = (if vp1 = vp2 then (if vc0 = vd0 then (if vc1 = vd1 then (1 : Int32) else (0 : Int32)) else (0 : Int32)) else (0 : Int32)))).2 ?_
              show Steps p.tables e below (T188.setTop (mkF m 370 #[.val (.int x1), .val (.int x2), .val (.int x3), .val (.int x4), .val (.int x5), .val (.int (1 : Int32)), .val (.int (1 : Int32)), .val (.int vb7), .val (.int vb8), .val (.int vk), .val (.int vc0), .val (.int vc1), .val (.int vd0), .val (.int vd1), .val (.int vp1), .val (.int vp2), .val (.ref b143), .val (.ref b155), .val (.ref b167), .val (.ref b171), .val (.int (if vp1 = vp2 then (if vc0 = vd0 then (if vc1 = vd1 then (1 : Int32) else (0 : Int32)) else (0 : Int32)) else (0 : Int32)))] [])) _
              refine XS.aload X188.here hx rfl (hb hby at_370) rfl rfl ?_
              show Steps p.tables e below (T188.setTop (mkF m 372 #[.val (.int x1), .val (.int x2), .val (.int x3), .val (.int x4), .val (.int x5), .val (.int (1 : Int32)), .val (.int (1 : Int32)), .val (.int vb7), .val (.int vb8), .val (.int vk), .val (.int vc0), .val (.int vc1), .val (.int vd0), .val (.int vd1), .val (.int vp1), .val (.int vp2), .val (.ref b143), .val (.ref b155), .val (.ref b167), .val (.ref b171), .val (.int (if vp1 = vp2 then (if vc0 = vd0 then (if vc1 = vd1 then (1 : Int32) else (0 : Int32)) else (0 : Int32)) else (0 : Int32)))] [(.ref b171)])) _
              refine XS.aload X188.here hx rfl (hb hby at_372) rfl rfl ?_
              show Steps p.tables e below (T188.setTop (mkF m 374 #[.val (.int x1), .val (.int x2), .val (.int x3), .val (.int x4), .val (.int x5), .val (.int (1 : Int32)), .val (.int (1 : Int32)), .val (.int vb7), .val (.int vb8), .val (.int vk), .val (.int vc0), .val (.int vc1), .val (.int vd0), .val (.int vd1), .val (.int vp1), .val (.int vp2), .val (.ref b143), .val (.ref b155), .val (.ref b167), .val (.ref b171), .val (.int (if vp1 = vp2 then (if vc0 = vd0 then (if vc1 = vd1 then (1 : Int32) else (0 : Int32)) else (0 : Int32)) else (0 : Int32)))] [(.ref b167), (.ref b171)])) _
              refine st189.trans ?_
              show Steps p.tables e below (T189.setTop (mkF m 377 #[.val (.int x1), .val (.int x2), .val (.int x3), .val (.int x4), .val (.int x5), .val (.int (1 : Int32)), .val (.int (1 : Int32)), .val (.int vb7), .val (.int vb8), .val (.int vk), .val (.int vc0), .val (.int vc1), .val (.int vd0), .val (.int vd1), .val (.int vp1), .val (.int vp2), .val (.ref b143), .val (.ref b155), .val (.ref b167), .val (.ref b171), .val (.int (if vp1 = vp2 then (if vc0 = vd0 then (if vc1 = vd1 then (1 : Int32) else (0 : Int32)) else (0 : Int32)) else (0 : Int32)))] [(.int (if vp2 = vp1 ∧ (((vd0).toInt8.toInt32) = ((vc0).toInt8.toInt32) ∧ ((vd1).toInt8.toInt32) = ((vc1).toInt8.toInt32)) then (1 : Int32) else (0 : Int32)))])) _
              refine XS.iload X189.here hx rfl (hb hby at_377) rfl ?_
              show Steps p.tables e below (T189.setTop (mkF m 379 #[.val (.int x1), .val (.int x2), .val (.int x3), .val (.int x4), .val (.int x5), .val (.int (1 : Int32)), .val (.int (1 : Int32)), .val (.int vb7), .val (.int vb8), .val (.int vk), .val (.int vc0), .val (.int vc1), .val (.int vd0), .val (.int vd1), .val (.int vp1), .val (.int vp2), .val (.ref b143), .val (.ref b155), .val (.ref b167), .val (.ref b171), .val (.int (if vp1 = vp2 then (if vc0 = vd0 then (if vc1 = vd1 then (1 : Int32) else (0 : Int32)) else (0 : Int32)) else (0 : Int32)))] [(.int (if vp1 = vp2 then (if vc0 = vd0 then (if vc1 = vd1 then (1 : Int32) else (0 : Int32)) else (0 : Int32)) else (0 : Int32))), (.int (if vp2 = vp1 ∧ (((vd0).toInt8.toInt32) = ((vc0).toInt8.toInt32) ∧ ((vd1).toInt8.toInt32) = ((vc1).toInt8.toInt32)) then (1 : Int32) else (0 : Int32)))])) _
              refine XS.icmpNo X189.here hx rfl (hb hby at_379) rfl (teq (own_g2 Bvc0 Bvd0 Bvc1 Bvd1 : (if vp2 = vp1 ∧ (((vd0).toInt8.toInt32) = ((vc0).toInt8.toInt32) ∧ ((vd1).toInt8.toInt32) = ((vc1).toInt8.toInt32)) then (1 : Int32) else (0 : Int32)) = (if vp1 = vp2 then (if vc0 = vd0 then (if vc1 = vd1 then (1 : Int32) else (0 : Int32)) else (0 : Int32)) else (0 : Int32)))).2 ?_
              show Steps p.tables e below (T189.setTop (mkF m 382 #[.val (.int x1), .val (.int x2), .val (.int x3), .val (.int x4), .val (.int x5), .val (.int (1 : Int32)), .val (.int (1 : Int32)), .val (.int vb7), .val (.int vb8), .val (.int vk), .val (.int vc0), .val (.int vc1), .val (.int vd0), .val (.int vd1), .val (.int vp1), .val (.int vp2), .val (.ref b143), .val (.ref b155), .val (.ref b167), .val (.ref b171), .val (.int (if vp1 = vp2 then (if vc0 = vd0 then (if vc1 = vd1 then (1 : Int32) else (0 : Int32)) else (0 : Int32)) else (0 : Int32)))] [])) _
              refine XS.iconst X189.here hx rfl (hb hby at_382) ?_
              show Steps p.tables e below (T189.setTop (mkF m 383 #[.val (.int x1), .val (.int x2), .val (.int x3), .val (.int x4), .val (.int x5), .val (.int (1 : Int32)), .val (.int (1 : Int32)), .val (.int vb7), .val (.int vb8), .val (.int vk), .val (.int vc0), .val (.int vc1), .val (.int vd0), .val (.int vd1), .val (.int vp1), .val (.int vp2), .val (.ref b143), .val (.ref b155), .val (.ref b167), .val (.ref b171), .val (.int (if vp1 = vp2 then (if vc0 = vd0 then (if vc1 = vd1 then (1 : Int32) else (0 : Int32)) else (0 : Int32)) else (0 : Int32)))] [(.int (1 : Int32))])) _
              refine XS.goto X189.here hx rfl (pc0 := 383) (pc' := 387) rfl (hb hby at_383) (by decide) (by decide) ?_
              show Steps p.tables e below (T189.setTop (mkF m 387 #[.val (.int x1), .val (.int x2), .val (.int x3), .val (.int x4), .val (.int x5), .val (.int (1 : Int32)), .val (.int (1 : Int32)), .val (.int vb7), .val (.int vb8), .val (.int vk), .val (.int vc0), .val (.int vc1), .val (.int vd0), .val (.int vd1), .val (.int vp1), .val (.int vp2), .val (.ref b143), .val (.ref b155), .val (.ref b167), .val (.ref b171), .val (.int (if vp1 = vp2 then (if vc0 = vd0 then (if vc1 = vd1 then (1 : Int32) else (0 : Int32)) else (0 : Int32)) else (0 : Int32)))] [(.int (1 : Int32))])) _
              exact retN X189 hx (t := .boolean) Bd.returns (by simp) (hb hby at_387) hr
            · show own_Q_own_law Z x1 x2 x3 x4 x5 cz h0 n0 _ T189.heap _
              rw [e189]
              exact ⟨rfl, N189⟩
set_option maxRecDepth 65536 in
set_option maxHeartbeats 40000000 in
theorem own_comes_1 {Post : Tables → Env → Array Value → State → Outcome → State → Prop} (hpost : ∀ tb e args s v u, (limb_1_1.after args s (.returned v) u = true ∧ limb_1_2.after args s (.returned v) u = true ∧ True) → ReturnedEndW s (.returned v) u (Jvm.fieldLocs frame_1_writes args s ++ Jvm.arrayLocs frame_1_arrays args s ++ Jvm.staticLocs frame_1_statics s) 32 1152 → Post tb e args s (.returned v) u) :
    ArmFor flags0 classFile x code maxLocals ret World_1 tables_1 room_1 Calls_1 rest_1 Pre_1 Post := by
  intro l hfl _ _ p e ha hc hk s m args below hf hA hF happ hP
  obtain ⟨hcalls, hrest, hpre⟩ := hP
  obtain ⟨-, -, -, hnamed, -, -, -, hat⟩ := (Spec.applies_iff hf).mp happ
  obtain ⟨hg, hn⟩ := and_e (Cond.before_iff.mp (show (Jvm.Cond.and given_1 narrow_1).before args s = true from hpre))
  obtain ⟨g1, g2⟩ := and_e hg
  obtain ⟨g3, g4⟩ := and_e g2
  obtain ⟨g5, g6⟩ := and_e g4
  obtain ⟨g7, g8⟩ := and_e g6
  obtain ⟨g9, g10⟩ := and_e g8
  obtain ⟨w0, w1, w2, w3, w4, rfl⟩ : ∃ w0 w1 w2 w3 w4 : Value, args = #[w0, w1, w2, w3, w4] := by
    have hs : args.size = 5 := by simpa [Cond.value, given_1] using g1
    obtain ⟨L⟩ := args
    match L, hs with
    | [w0, w1, w2, w3, w4], _ => exact ⟨w0, w1, w2, w3, w4, rfl⟩
  have hw := fun d (hd : d ∈ tables_1) => atoms_spec (ws := Jvm.Cond.code x code maxLocals ret :: tables_1) hat d (List.mem_cons_of_mem _ hd)
  have hfit : Fit s := fun {y c} hc i hi => by
    obtain ⟨ha, rfl⟩ := Array.getElem?_eq_some_iff.mp hc
    have q := List.all_eq_true.mp ((Array.all_eq_true_iff_forall_mem.mp hF) _ (Array.getElem_mem ha)) i (List.mem_range.mpr hi)
    simpa [Array.getElem?_eq_getElem hi] using q
  obtain ⟨hsets, hown0⟩ := atoms_of _ (rest_1_c_eq ▸ (show rest_1_c.before _ s = true from hrest))
  have hr0 := Cond.before_iff.mp hown0
  obtain ⟨i0, ei0⟩ := is_v g3
  obtain rfl : w0 = (.int i0) := Option.some.inj ei0
  obtain ⟨i1, ei1⟩ := is_v g5
  obtain rfl : w1 = (.int i1) := Option.some.inj ei1
  obtain ⟨i2, ei2⟩ := is_v g7
  obtain rfl : w2 = (.int i2) := Option.some.inj ei2
  obtain ⟨i3, ei3⟩ := is_v g9
  obtain rfl : w3 = (.int i3) := Option.some.inj ei3
  obtain ⟨i4, ei4⟩ := is_v g10
  obtain rfl : w4 = (.int i4) := Option.some.inj ei4
  obtain ⟨cz, evz⟩ := is_v (Cond.before_iff.mp (hsets _ (List.mem_of_getElem? (i := 1) rfl)))
  have S0 := Sta.start evz (Or.inl (hsets _ (List.mem_of_getElem? (i := 0) rfl)))
  have hcz : ¬ (cz = (0 : Int32)) := own_not0 evz (Cond.before_iff.mp (hsets _ (List.mem_of_getElem? (i := 2) rfl)))
  obtain ⟨n, o, h1, h2, h3, _, L, rfl, ⟨rfl, N⟩, hq⟩ := own_law l s _ hw tables_1 i0 i1 i2 i3 i4 cz s.heap s.heap.size (Nat.le_refl _) (Old.start s) S0 hcz p e ha hc hk s m _ below hf ((Spec.applies_iff_loose hf).mp happ).1 ⟨rfl, State.Warmed39.refl s, rfl⟩ trivial
  refine ⟨n, _, h1, h2, h3, hpost _ _ _ _ _ _ ⟨Cond.after_iff.mpr rfl, Cond.after_iff.mpr (eq_i res_at (Term.int_eval (1)) rfl), trivial⟩ ⟨hq.1, hq.2.1, hq.2.2.1, (hq.2.2.2.sift fun y hy => Or.inr (N y hy)).mono (by decide) (by decide)⟩⟩
theorem main_1_1 : Claimed_1_1 := own_comes_1 fun _ _ _ _ _ _ h hF => ⟨h.1, hF⟩
theorem main_1_2 : Claimed_1_2 := own_comes_1 fun _ _ _ _ _ _ h hF => ⟨h.2.1, hF⟩
end Jvm.Pilot.@@N@@
namespace Jvm.Pilot.@@N@@
open Jvm Jvm.ClassFile Sem Op Lib Jvm.Free Jvm.Stand Jvm.Pilot.@@N@@.Jvm.D
/-! MADE BY PROGRAM (witnessworld.py) out of the Statement's table words and the real class files: 22 classes; the members and pool entries that the words name. The judged class is class 1, her method 1. -/
namespace start1
open Jvm.ClassFile
def u (s : String) : CpInfo := .utf8 (stringToUtf16 s)
/-- a pool by its gaps: so many unusable entries, then the entry; so many at the end -/
def gap : Nat → List CpInfo → List CpInfo
  | 0, r => r
  | n + 1, r => .unusable :: gap n r
def poolList (es : List (Nat × CpInfo)) (last : Nat) : List CpInfo := es.foldr (fun e r => gap e.1 (e.2 :: r)) (gap last [])
def pool (es : List (Nat × CpInfo)) (last : Nat) : Array CpInfo := ⟨poolList es last⟩
def fileOf (pool : Array CpInfo) (this : Nat) (attrs : Array Attribute := #[]) (ms : Array MethodInfo := #[]) (fl : Nat := 33) (sup : Nat := 0) (ifs : Array Nat := #[]) (fds : Array FieldInfo := #[]) : ClassFile where
  minorVersion := 0
  majorVersion := 65
  constantPool := pool
  accessFlags := fl
  thisClass := this
  superClass := sup
  interfaces := ifs
  fields := fds
  methods := ms
  attributes := attrs
def plain (name : String) (sup : Option ClassId) : Class where
  name := name
  kind := .ordinary
  loader := none
  accessFlags := 33
  super := sup
  interfaces := #[]
  cf := none
  fields := #[]
  methods := #[]
  instanceTypes := #[]
  staticTypes := #[]
  resolved := #[]
  callSites := []
  init := .initialized
  statics := none
  mirror := none

def pool0 : Array CpInfo := pool [(5, u "<init>"), (0, u "()V"), (1, .class_ 10), (1, u "java/lang/Object")] 113

def k0c0 : Code := { maxStack := 0, maxLocals := 1, code := object_method_1_code, exceptionTable := #[], attributes := #[] }
def k0m0 : Method := { name := "<init>", desc := "()V", sig := { parameters := [], returnType := none }, accessFlags := 1, code := some k0c0 }
/-- java/lang/Object -/
def k0 : Class := { plain "java/lang/Object" none with
  accessFlags := 33
  interfaces := #[]
  cf := some (fileOf pool0 8 #[] #[{ accessFlags := 1, nameIndex := 5, descriptorIndex := 6, attributes := #[] }] 33 0 #[] #[])
  fields := #[]
  methods := #[k0m0]
  instanceTypes := #[]
  staticTypes := #[]
  resolved := Array.replicate 124 none
  statics := none }

def pool1 : Array CpInfo := pool [(2, .class_ 4), (1, u "java/lang/Object"), (0, u "<init>"), (0, u "()V"), (0, .integer 2147483647), (0, .class_ 9), (0, u "java/lang/String"), (0, .methodref 8 11), (0, .nameAndType 5 12), (0, u "([C)V"), (0, .class_ 14), (0, u "com/example/vigilant_consumer/vigilantconsumer/TopicPartition"), (0, .methodref 13 16), (0, .nameAndType 5 17), (0, u "(Ljava/lang/String;I)V"), (0, .methodref 13 19), (0, .nameAndType 20 21), (0, u "equals"), (0, u "(Ljava/lang/Object;)Z"), (0, .class_ 23), (0, u "com/example/vigilant_consumer/vigilantconsumer/TopicPartitionEqualsPinLaw"), (2, u "law"), (0, u "(IIIII)Z")] 3

def k1m0 : Method := { name := "<init>", desc := "()V", sig := { parameters := [], returnType := none }, accessFlags := 1, code := none }
def k1c1 : Code := { maxStack := 6, maxLocals := 21, code := code, exceptionTable := #[], attributes := #[] }
def k1m1 : Method := { name := "law", desc := "(IIIII)Z", sig := { parameters := [.int, .int, .int, .int, .int], returnType := some .boolean }, accessFlags := 9, code := some k1c1 }
/-- com/example/vigilant_consumer/vigilantconsumer/TopicPartitionEqualsPinLaw -/
def k1 : Class := { plain "com/example/vigilant_consumer/vigilantconsumer/TopicPartitionEqualsPinLaw" (some 0) with
  accessFlags := 49
  interfaces := #[]
  cf := some (fileOf pool1 22 #[] #[{ accessFlags := 1, nameIndex := 5, descriptorIndex := 6, attributes := #[] }, { accessFlags := 9, nameIndex := 26, descriptorIndex := 27, attributes := #[] }] 49 2 #[] #[])
  fields := #[]
  methods := #[k1m0, k1m1]
  instanceTypes := #[]
  staticTypes := #[]
  resolved := Array.replicate 31 none
  statics := none }

def pool2 : Array CpInfo := pool [(1, .class_ 2), (0, u "java/io/Serializable"), (0, .class_ 4), (0, u "java/lang/Object")] 2

/-- java/io/Serializable -/
def k2 : Class := { plain "java/io/Serializable" (some 0) with
  accessFlags := 1537
  interfaces := #[]
  cf := some (fileOf pool2 1 #[] #[] 1537 3 #[] #[])
  fields := #[]
  methods := #[]
  instanceTypes := #[]
  staticTypes := #[]
  resolved := Array.replicate 7 none
  statics := none }

def pool3 : Array CpInfo := pool [(1, .class_ 2), (0, u "java/lang/Comparable"), (0, .class_ 4), (0, u "java/lang/Object")] 7

/-- java/lang/Comparable -/
def k3 : Class := { plain "java/lang/Comparable" (some 0) with
  accessFlags := 1537
  interfaces := #[]
  cf := some (fileOf pool3 1 #[] #[] 1537 3 #[] #[])
  fields := #[]
  methods := #[]
  instanceTypes := #[]
  staticTypes := #[]
  resolved := Array.replicate 12 none
  statics := none }

def pool4 : Array CpInfo := pool [(2, .class_ 4), (1, u "java/lang/CharSequence"), (42, .class_ 48), (0, u "java/lang/CharSequence$1CodePointIterator"), (10, .class_ 60), (0, u "java/lang/CharSequence$1CharIterator"), (5, .class_ 67), (0, u "java/lang/Object")] 63

/-- java/lang/CharSequence -/
def k4 : Class := { plain "java/lang/CharSequence" (some 0) with
  accessFlags := 1537
  interfaces := #[]
  cf := some (fileOf pool4 2 #[.nestMembers #[47, 59]] #[] 1537 66 #[] #[])
  fields := #[]
  methods := #[]
  instanceTypes := #[]
  staticTypes := #[]
  resolved := Array.replicate 131 none
  statics := none }

def pool5 : Array CpInfo := pool [(1, .class_ 2), (0, u "java/lang/constant/Constable"), (0, .class_ 4), (0, u "java/lang/Object")] 6

/-- java/lang/constant/Constable -/
def k5 : Class := { plain "java/lang/constant/Constable" (some 0) with
  accessFlags := 1537
  interfaces := #[]
  cf := some (fileOf pool5 1 #[] #[] 1537 3 #[] #[])
  fields := #[]
  methods := #[]
  instanceTypes := #[]
  staticTypes := #[]
  resolved := Array.replicate 11 none
  statics := none }

def pool6 : Array CpInfo := pool [(1, .class_ 2), (0, u "java/lang/constant/ConstantDesc"), (0, .class_ 4), (0, u "java/lang/Object")] 32

/-- java/lang/constant/ConstantDesc -/
def k6 : Class := { plain "java/lang/constant/ConstantDesc" (some 0) with
  accessFlags := 1537
  interfaces := #[]
  cf := some (fileOf pool6 1 #[] #[] 1537 3 #[] #[])
  fields := #[]
  methods := #[]
  instanceTypes := #[]
  staticTypes := #[]
  resolved := Array.replicate 37 none
  statics := none }

def pool7 : Array CpInfo := pool [(1, .methodref 2 3), (0, .class_ 4), (0, .nameAndType 5 6), (0, u "java/lang/Object"), (0, u "<init>"), (0, u "()V"), (2, .fieldref 10 11), (0, .class_ 12), (0, .nameAndType 13 14), (0, u "java/lang/String"), (0, u "value"), (0, u "[B"), (0, .fieldref 10 16), (0, .nameAndType 17 18), (0, u "coder"), (0, u "B"), (2, u "hash"), (0, u "I"), (2, u "hashIsZero"), (0, u "Z"), (0, .methodref 10 28), (0, .nameAndType 5 29), (0, u "([CIILjava/lang/Void;)V"), (8, .fieldref 10 39), (0, .nameAndType 40 26), (0, u "COMPACT_STRINGS"), (1, .class_ 44), (1, u "java/lang/StringUTF16"), (0, u "compress"), (1, .methodref 42 48), (0, .nameAndType 49 50), (0, u "coderFromArrayLen"), (0, u "([BI)B"), (56, .class_ 109), (1, u "java/lang/StringLatin1"), (32, u "()Z"), (34, .methodref 42 178), (0, .nameAndType 45 179), (0, u "([CII)[B"), (361, .methodref 107 542), (0, .nameAndType 543 544), (0, u "equals"), (0, u "([B[B)Z"), (28, u "(Ljava/lang/Object;)Z"), (1, .class_ 576), (0, u "java/lang/CharSequence"), (22, u "CASE_INSENSITIVE_ORDER"), (0, u "Ljava/util/Comparator;"), (91, u "isEmpty"), (317, u "([C)V"), (90, u "serialPersistentFields"), (0, u "[Ljava/io/ObjectStreamField;"), (0, .class_ 1104), (0, u "java/lang/String$CaseInsensitiveComparator"), (1, .class_ 1107), (0, u "java/io/Serializable"), (0, .class_ 1109), (0, u "java/lang/Comparable"), (0, .class_ 1111), (0, u "java/lang/constant/Constable"), (0, .class_ 1113), (0, u "java/lang/constant/ConstantDesc"), (2, u "serialVersionUID"), (0, u "J"), (3, u "REPL"), (0, u "C"), (2, u "LATIN1"), (1, u "UTF16")] 323

def k7m0 : Method := { name := "<init>", desc := "()V", sig := { parameters := [], returnType := none }, accessFlags := 1, code := none }
def k7c1 : Code := { maxStack := 5, maxLocals := 2, code := jdk_42_method_3_code, exceptionTable := #[], attributes := #[] }
def k7m1 : Method := { name := "<init>", desc := "([C)V", sig := { parameters := [(.array .char)], returnType := none }, accessFlags := 1, code := some k7c1 }
def k7c2 : Code := { maxStack := 1, maxLocals := 1, code := jdk_42_method_55_code, exceptionTable := #[], attributes := #[] }
def k7m2 : Method := { name := "isEmpty", desc := "()Z", sig := { parameters := [], returnType := some .boolean }, accessFlags := 1, code := some k7c2 }
def k7c3 : Code := { maxStack := 2, maxLocals := 3, code := jdk_42_method_66_code, exceptionTable := #[], attributes := #[] }
def k7m3 : Method := { name := "equals", desc := "(Ljava/lang/Object;)Z", sig := { parameters := [(.object "java/lang/Object")], returnType := some .boolean }, accessFlags := 1, code := some k7c3 }
def k7c4 : Code := { maxStack := 4, maxLocals := 6, code := jdk_42_method_149_code, exceptionTable := #[], attributes := #[] }
def k7m4 : Method := { name := "<init>", desc := "([CIILjava/lang/Void;)V", sig := { parameters := [(.array .char), .int, .int, (.object "java/lang/Void")], returnType := none }, accessFlags := 2, code := some k7c4 }
/-- java/lang/String -/
def k7 : Class := { plain "java/lang/String" (some 0) with
  accessFlags := 49
  interfaces := #[2, 3, 4, 5, 6]
  cf := some (fileOf pool7 10 #[.nestMembers #[1103]] #[{ accessFlags := 1, nameIndex := 5, descriptorIndex := 6, attributes := #[] }, { accessFlags := 1, nameIndex := 5, descriptorIndex := 1010, attributes := #[] }, { accessFlags := 1, nameIndex := 692, descriptorIndex := 142, attributes := #[] }, { accessFlags := 1, nameIndex := 543, descriptorIndex := 573, attributes := #[] }, { accessFlags := 2, nameIndex := 5, descriptorIndex := 29, attributes := #[] }] 49 2 #[1106, 1108, 575, 1110, 1112] #[{ accessFlags := 18, nameIndex := 13, descriptorIndex := 14, attributes := #[] }, { accessFlags := 18, nameIndex := 17, descriptorIndex := 18, attributes := #[] }, { accessFlags := 2, nameIndex := 21, descriptorIndex := 22, attributes := #[] }, { accessFlags := 2, nameIndex := 25, descriptorIndex := 26, attributes := #[] }, { accessFlags := 26, nameIndex := 1116, descriptorIndex := 1117, attributes := #[] }, { accessFlags := 24, nameIndex := 40, descriptorIndex := 26, attributes := #[] }, { accessFlags := 26, nameIndex := 1101, descriptorIndex := 1102, attributes := #[] }, { accessFlags := 26, nameIndex := 1121, descriptorIndex := 1122, attributes := #[] }, { accessFlags := 25, nameIndex := 599, descriptorIndex := 600, attributes := #[] }, { accessFlags := 24, nameIndex := 1125, descriptorIndex := 18, attributes := #[] }, { accessFlags := 24, nameIndex := 1127, descriptorIndex := 18, attributes := #[] }])
  fields := #[{ name := "value", type := (.array .byte), accessFlags := 18, slot := 0, constantValue := 0 }, { name := "coder", type := .byte, accessFlags := 18, slot := 1, constantValue := 0 }, { name := "hash", type := .int, accessFlags := 2, slot := 2, constantValue := 0 }, { name := "hashIsZero", type := .boolean, accessFlags := 2, slot := 3, constantValue := 0 }, { name := "serialVersionUID", type := .long, accessFlags := 26, slot := 0, constantValue := 0 }, { name := "COMPACT_STRINGS", type := .boolean, accessFlags := 24, slot := 1, constantValue := 0 }, { name := "serialPersistentFields", type := (.array (.object "java/io/ObjectStreamField")), accessFlags := 26, slot := 2, constantValue := 0 }, { name := "REPL", type := .char, accessFlags := 26, slot := 3, constantValue := 0 }, { name := "CASE_INSENSITIVE_ORDER", type := (.object "java/util/Comparator"), accessFlags := 25, slot := 4, constantValue := 0 }, { name := "LATIN1", type := .byte, accessFlags := 24, slot := 5, constantValue := 0 }, { name := "UTF16", type := .byte, accessFlags := 24, slot := 6, constantValue := 0 }]
  methods := #[k7m0, k7m1, k7m2, k7m3, k7m4]
  instanceTypes := #[(.array .byte), .byte, .int, .boolean]
  staticTypes := #[.long, .boolean, (.array (.object "java/io/ObjectStreamField")), .char, (.object "java/util/Comparator"), .byte, .byte]
  resolved := Array.replicate 1451 none
  statics := some 0 }

def pool8 : Array CpInfo := pool [(6, .class_ 8), (1, u "java/lang/Object"), (0, u "<init>"), (0, u "()V"), (1, .class_ 14), (1, u "java/lang/StringUTF16"), (31, u "$assertionsDisabled"), (0, u "Z"), (13, u "HI_BYTE_SHIFT"), (0, u "I"), (2, u "LO_BYTE_SHIFT"), (49, .methodref 12 116), (0, .nameAndType 117 118), (0, u "compress"), (0, u "([CI[BII)I"), (3, u "([CII)[B"), (138, u "coderFromArrayLen"), (0, u "([BI)B"), (106, .class_ 371), (1, u "java/lang/StringUTF16$LinesSpliterator"), (58, u "MAX_LENGTH"), (196, .class_ 628), (0, u "java/lang/StringUTF16$CodePointsSpliterator"), (0, .class_ 630), (0, u "java/lang/StringUTF16$CharsSpliterator")] 4

def k8m0 : Method := { name := "<init>", desc := "()V", sig := { parameters := [], returnType := none }, accessFlags := 0, code := none }
def k8c1 : Code := { maxStack := 2, maxLocals := 2, code := jdk_52_method_15_code, exceptionTable := #[], attributes := #[] }
def k8m1 : Method := { name := "coderFromArrayLen", desc := "([BI)B", sig := { parameters := [(.array .byte), .int], returnType := some .byte }, accessFlags := 8, code := some k8c1 }
def k8c2 : Code := { maxStack := 5, maxLocals := 6, code := jdk_52_method_16_code, exceptionTable := #[], attributes := #[] }
def k8m2 : Method := { name := "compress", desc := "([CII)[B", sig := { parameters := [(.array .char), .int, .int], returnType := some (.array .byte) }, accessFlags := 9, code := some k8c2 }
def k8c3 : Code := { maxStack := 3, maxLocals := 7, code := jdk_52_method_21_code, exceptionTable := #[], attributes := #[] }
def k8m3 : Method := { name := "compress", desc := "([CI[BII)I", sig := { parameters := [(.array .char), .int, (.array .byte), .int, .int], returnType := some .int }, accessFlags := 9, code := some k8c3 }
/-- java/lang/StringUTF16 -/
def k8 : Class := { plain "java/lang/StringUTF16" (some 0) with
  accessFlags := 48
  interfaces := #[]
  cf := some (fileOf pool8 12 #[.nestMembers #[627, 629, 369]] #[{ accessFlags := 0, nameIndex := 9, descriptorIndex := 10, attributes := #[] }, { accessFlags := 8, nameIndex := 261, descriptorIndex := 262, attributes := #[] }, { accessFlags := 9, nameIndex := 117, descriptorIndex := 122, attributes := #[] }, { accessFlags := 9, nameIndex := 117, descriptorIndex := 118, attributes := #[] }] 48 6 #[] #[{ accessFlags := 26, nameIndex := 61, descriptorIndex := 62, attributes := #[] }, { accessFlags := 26, nameIndex := 65, descriptorIndex := 62, attributes := #[] }, { accessFlags := 24, nameIndex := 430, descriptorIndex := 62, attributes := #[] }, { accessFlags := 4120, nameIndex := 46, descriptorIndex := 47, attributes := #[] }])
  fields := #[{ name := "HI_BYTE_SHIFT", type := .int, accessFlags := 26, slot := 0, constantValue := 0 }, { name := "LO_BYTE_SHIFT", type := .int, accessFlags := 26, slot := 1, constantValue := 0 }, { name := "MAX_LENGTH", type := .int, accessFlags := 24, slot := 2, constantValue := 0 }, { name := "$assertionsDisabled", type := .boolean, accessFlags := 4120, slot := 3, constantValue := 0 }]
  methods := #[k8m0, k8m1, k8m2, k8m3]
  instanceTypes := #[]
  staticTypes := #[.int, .int, .int, .boolean]
  resolved := Array.replicate 635 none
  statics := none }

def pool9 : Array CpInfo := pool [(1, .methodref 2 3), (0, .class_ 4), (0, .nameAndType 5 6), (0, u "java/lang/Object"), (0, u "<init>"), (0, u "()V"), (0, .class_ 8), (0, u "java/lang/Record")] 13

def k9c0 : Code := { maxStack := 1, maxLocals := 1, code := jdk_30_method_1_code, exceptionTable := #[], attributes := #[] }
def k9m0 : Method := { name := "<init>", desc := "()V", sig := { parameters := [], returnType := none }, accessFlags := 4, code := some k9c0 }
/-- java/lang/Record -/
def k9 : Class := { plain "java/lang/Record" (some 0) with
  accessFlags := 1057
  interfaces := #[]
  cf := some (fileOf pool9 7 #[] #[{ accessFlags := 4, nameIndex := 5, descriptorIndex := 6, attributes := #[] }] 1057 2 #[] #[])
  fields := #[]
  methods := #[k9m0]
  instanceTypes := #[]
  staticTypes := #[]
  resolved := Array.replicate 22 none
  statics := none }

def pool10 : Array CpInfo := pool [(1, .methodref 2 3), (0, .class_ 4), (0, .nameAndType 5 6), (0, u "java/lang/Record"), (0, u "<init>"), (0, u "()V"), (0, .string 8), (0, u "topic"), (0, .methodref 10 11), (0, .class_ 12), (0, .nameAndType 13 14), (0, u "java/util/Objects"), (0, u "requireNonNull"), (0, u "(Ljava/lang/Object;Ljava/lang/String;)Ljava/lang/Object;"), (0, .methodref 16 17), (0, .class_ 18), (0, .nameAndType 19 20), (0, u "java/lang/String"), (0, u "isEmpty"), (0, u "()Z"), (9, .fieldref 31 32), (0, .class_ 33), (0, .nameAndType 8 34), (0, u "com/example/vigilant_consumer/vigilantconsumer/TopicPartition"), (0, u "Ljava/lang/String;"), (0, .fieldref 31 36), (0, .nameAndType 37 38), (0, u "partition"), (0, u "I"), (0, .methodref 16 40), (0, .nameAndType 41 42), (0, u "equals"), (0, u "(Ljava/lang/Object;)Z"), (5, u "(Ljava/lang/String;I)V")] 26

def k10c0 : Code := { maxStack := 4, maxLocals := 3, code := prog_59_method_1_code, exceptionTable := #[], attributes := #[] }
def k10m0 : Method := { name := "<init>", desc := "(Ljava/lang/String;I)V", sig := { parameters := [(.object "java/lang/String"), .int], returnType := none }, accessFlags := 1, code := some k10c0 }
def k10c1 : Code := { maxStack := 2, maxLocals := 3, code := prog_59_method_2_code, exceptionTable := #[], attributes := #[] }
def k10m1 : Method := { name := "equals", desc := "(Ljava/lang/Object;)Z", sig := { parameters := [(.object "java/lang/Object")], returnType := some .boolean }, accessFlags := 1, code := some k10c1 }
/-- com/example/vigilant_consumer/vigilantconsumer/TopicPartition -/
def k10 : Class := { plain "com/example/vigilant_consumer/vigilantconsumer/TopicPartition" (some 9) with
  accessFlags := 49
  interfaces := #[]
  cf := some (fileOf pool10 31 #[] #[{ accessFlags := 1, nameIndex := 5, descriptorIndex := 48, attributes := #[] }, { accessFlags := 1, nameIndex := 41, descriptorIndex := 42, attributes := #[] }] 49 2 #[] #[{ accessFlags := 18, nameIndex := 8, descriptorIndex := 34, attributes := #[] }, { accessFlags := 18, nameIndex := 37, descriptorIndex := 38, attributes := #[] }])
  fields := #[{ name := "topic", type := (.object "java/lang/String"), accessFlags := 18, slot := 0, constantValue := 0 }, { name := "partition", type := .int, accessFlags := 18, slot := 1, constantValue := 0 }]
  methods := #[k10m0, k10m1]
  instanceTypes := #[(.object "java/lang/String"), .int]
  staticTypes := #[]
  resolved := Array.replicate 75 none
  statics := none }

def pool11 : Array CpInfo := pool [(2, .class_ 4), (1, u "java/lang/Object"), (0, u "<init>"), (0, u "()V"), (35, .class_ 44), (1, u "java/util/Objects"), (0, u "requireNonNull"), (48, u "(Ljava/lang/Object;Ljava/lang/String;)Ljava/lang/Object;")] 89

def k11m0 : Method := { name := "<init>", desc := "()V", sig := { parameters := [], returnType := none }, accessFlags := 2, code := none }
def k11c1 : Code := { maxStack := 3, maxLocals := 2, code := jdk_31_method_11_code, exceptionTable := #[], attributes := #[] }
def k11m1 : Method := { name := "requireNonNull", desc := "(Ljava/lang/Object;Ljava/lang/String;)Ljava/lang/Object;", sig := { parameters := [(.object "java/lang/Object"), (.object "java/lang/String")], returnType := some (.object "java/lang/Object") }, accessFlags := 9, code := some k11c1 }
/-- java/util/Objects -/
def k11 : Class := { plain "java/util/Objects" (some 0) with
  accessFlags := 49
  interfaces := #[]
  cf := some (fileOf pool11 42 #[] #[{ accessFlags := 2, nameIndex := 5, descriptorIndex := 6, attributes := #[] }, { accessFlags := 9, nameIndex := 45, descriptorIndex := 94, attributes := #[] }] 49 2 #[] #[])
  fields := #[]
  methods := #[k11m0, k11m1]
  instanceTypes := #[]
  staticTypes := #[]
  resolved := Array.replicate 184 none
  statics := none }

def pool12 : Array CpInfo := pool [(4, .class_ 6), (1, u "java/lang/Object"), (0, u "<init>"), (0, u "()V"), (5, .class_ 16), (1, u "java/lang/StringLatin1"), (104, u "$assertionsDisabled"), (0, u "Z"), (98, .class_ 223), (1, u "java/lang/StringLatin1$LinesSpliterator"), (57, u "equals"), (0, u "([B[B)Z"), (107, .class_ 391), (0, u "java/lang/StringLatin1$CharsSpliterator")] 3

def k12m0 : Method := { name := "<init>", desc := "()V", sig := { parameters := [], returnType := none }, accessFlags := 0, code := none }
def k12c1 : Code := { maxStack := 3, maxLocals := 3, code := jdk_43_method_13_code, exceptionTable := #[], attributes := #[] }
def k12m1 : Method := { name := "equals", desc := "([B[B)Z", sig := { parameters := [(.array .byte), (.array .byte)], returnType := some .boolean }, accessFlags := 9, code := some k12c1 }
/-- java/lang/StringLatin1 -/
def k12 : Class := { plain "java/lang/StringLatin1" (some 0) with
  accessFlags := 48
  interfaces := #[]
  cf := some (fileOf pool12 14 #[.nestMembers #[390, 221]] #[{ accessFlags := 0, nameIndex := 7, descriptorIndex := 8, attributes := #[] }, { accessFlags := 9, nameIndex := 281, descriptorIndex := 282, attributes := #[] }] 48 4 #[] #[{ accessFlags := 4120, nameIndex := 121, descriptorIndex := 122, attributes := #[] }])
  fields := #[{ name := "$assertionsDisabled", type := .boolean, accessFlags := 4120, slot := 0, constantValue := 0 }]
  methods := #[k12m0, k12m1]
  instanceTypes := #[]
  staticTypes := #[.boolean]
  resolved := Array.replicate 395 none
  statics := none }

def pool13 : Array CpInfo := pool [(2, .class_ 4), (1, u "java/lang/Object"), (0, u "<init>"), (0, u "()V"), (17, .class_ 26), (1, u "jdk/internal/util/Preconditions"), (28, .class_ 56), (0, u "jdk/internal/util/Preconditions$4"), (57, .class_ 115), (0, u "jdk/internal/util/Preconditions$1"), (7, u "SIOOBE_FORMATTER"), (0, u "Ljava/util/function/BiFunction;"), (0, .class_ 126), (0, u "jdk/internal/util/Preconditions$2"), (3, u "AIOOBE_FORMATTER"), (0, .class_ 132), (0, u "jdk/internal/util/Preconditions$3"), (3, u "IOOBE_FORMATTER")] 57

def k13m0 : Method := { name := "<init>", desc := "()V", sig := { parameters := [], returnType := none }, accessFlags := 1, code := none }
/-- jdk/internal/util/Preconditions -/
def k13 : Class := { plain "jdk/internal/util/Preconditions" (some 0) with
  accessFlags := 33
  interfaces := #[]
  cf := some (fileOf pool13 24 #[.nestMembers #[55, 131, 125, 114]] #[{ accessFlags := 1, nameIndex := 5, descriptorIndex := 6, attributes := #[] }] 33 2 #[] #[{ accessFlags := 25, nameIndex := 123, descriptorIndex := 124, attributes := #[] }, { accessFlags := 25, nameIndex := 130, descriptorIndex := 124, attributes := #[] }, { accessFlags := 25, nameIndex := 136, descriptorIndex := 124, attributes := #[] }])
  fields := #[{ name := "SIOOBE_FORMATTER", type := (.object "java/util/function/BiFunction"), accessFlags := 25, slot := 0, constantValue := 0 }, { name := "AIOOBE_FORMATTER", type := (.object "java/util/function/BiFunction"), accessFlags := 25, slot := 1, constantValue := 0 }, { name := "IOOBE_FORMATTER", type := (.object "java/util/function/BiFunction"), accessFlags := 25, slot := 2, constantValue := 0 }]
  methods := #[k13m0]
  instanceTypes := #[]
  staticTypes := #[(.object "java/util/function/BiFunction"), (.object "java/util/function/BiFunction"), (.object "java/util/function/BiFunction")]
  resolved := Array.replicate 194 none
  statics := some 1 }

def pool14 : Array CpInfo := pool [(9, u "<init>"), (6, .class_ 18), (1, u "java/lang/Object"), (0, u "()V"), (1, .class_ 23), (1, u "jdk/internal/util/ArraysSupport"), (0, u "LOG2_ARRAY_LONG_INDEX_SCALE"), (0, u "I"), (2, u "U"), (0, u "Ljdk/internal/misc/Unsafe;"), (8, u "BIG_ENDIAN"), (0, u "Z"), (8, u "LOG2_BYTE_BIT_SIZE"), (4, u "LOG2_ARRAY_INT_INDEX_SCALE"), (54, u "JLA"), (0, u "Ljdk/internal/access/JavaLangAccess;"), (11, u "LOG2_ARRAY_BOOLEAN_INDEX_SCALE"), (9, u "LOG2_ARRAY_BYTE_INDEX_SCALE"), (5, u "LOG2_ARRAY_CHAR_INDEX_SCALE"), (5, u "LOG2_ARRAY_SHORT_INDEX_SCALE"), (18, u "LOG2_ARRAY_FLOAT_INDEX_SCALE"), (24, u "LOG2_ARRAY_DOUBLE_INDEX_SCALE"), (89, u "T_BOOLEAN"), (2, u "T_CHAR"), (1, u "T_FLOAT"), (1, u "T_DOUBLE"), (1, u "T_BYTE"), (1, u "T_SHORT"), (1, u "T_INT"), (1, u "T_LONG"), (1, u "SOFT_MAX_ARRAY_LENGTH")] 83

def k14m0 : Method := { name := "<init>", desc := "()V", sig := { parameters := [], returnType := none }, accessFlags := 2, code := none }
/-- jdk/internal/util/ArraysSupport -/
def k14 : Class := { plain "jdk/internal/util/ArraysSupport" (some 0) with
  accessFlags := 33
  interfaces := #[]
  cf := some (fileOf pool14 21 #[] #[{ accessFlags := 2, nameIndex := 9, descriptorIndex := 19, attributes := #[] }] 33 16 #[] #[{ accessFlags := 24, nameIndex := 28, descriptorIndex := 29, attributes := #[] }, { accessFlags := 26, nameIndex := 38, descriptorIndex := 39, attributes := #[] }, { accessFlags := 25, nameIndex := 121, descriptorIndex := 25, attributes := #[] }, { accessFlags := 25, nameIndex := 131, descriptorIndex := 25, attributes := #[] }, { accessFlags := 25, nameIndex := 137, descriptorIndex := 25, attributes := #[] }, { accessFlags := 25, nameIndex := 143, descriptorIndex := 25, attributes := #[] }, { accessFlags := 25, nameIndex := 53, descriptorIndex := 25, attributes := #[] }, { accessFlags := 25, nameIndex := 24, descriptorIndex := 25, attributes := #[] }, { accessFlags := 25, nameIndex := 162, descriptorIndex := 25, attributes := #[] }, { accessFlags := 25, nameIndex := 187, descriptorIndex := 25, attributes := #[] }, { accessFlags := 26, nameIndex := 48, descriptorIndex := 25, attributes := #[] }, { accessFlags := 25, nameIndex := 277, descriptorIndex := 25, attributes := #[] }, { accessFlags := 25, nameIndex := 280, descriptorIndex := 25, attributes := #[] }, { accessFlags := 25, nameIndex := 282, descriptorIndex := 25, attributes := #[] }, { accessFlags := 25, nameIndex := 284, descriptorIndex := 25, attributes := #[] }, { accessFlags := 25, nameIndex := 286, descriptorIndex := 25, attributes := #[] }, { accessFlags := 25, nameIndex := 288, descriptorIndex := 25, attributes := #[] }, { accessFlags := 25, nameIndex := 290, descriptorIndex := 25, attributes := #[] }, { accessFlags := 25, nameIndex := 292, descriptorIndex := 25, attributes := #[] }, { accessFlags := 26, nameIndex := 108, descriptorIndex := 109, attributes := #[] }, { accessFlags := 25, nameIndex := 294, descriptorIndex := 25, attributes := #[] }])
  fields := #[{ name := "U", type := (.object "jdk/internal/misc/Unsafe"), accessFlags := 24, slot := 0, constantValue := 0 }, { name := "BIG_ENDIAN", type := .boolean, accessFlags := 26, slot := 1, constantValue := 0 }, { name := "LOG2_ARRAY_BOOLEAN_INDEX_SCALE", type := .int, accessFlags := 25, slot := 2, constantValue := 0 }, { name := "LOG2_ARRAY_BYTE_INDEX_SCALE", type := .int, accessFlags := 25, slot := 3, constantValue := 0 }, { name := "LOG2_ARRAY_CHAR_INDEX_SCALE", type := .int, accessFlags := 25, slot := 4, constantValue := 0 }, { name := "LOG2_ARRAY_SHORT_INDEX_SCALE", type := .int, accessFlags := 25, slot := 5, constantValue := 0 }, { name := "LOG2_ARRAY_INT_INDEX_SCALE", type := .int, accessFlags := 25, slot := 6, constantValue := 0 }, { name := "LOG2_ARRAY_LONG_INDEX_SCALE", type := .int, accessFlags := 25, slot := 7, constantValue := 0 }, { name := "LOG2_ARRAY_FLOAT_INDEX_SCALE", type := .int, accessFlags := 25, slot := 8, constantValue := 0 }, { name := "LOG2_ARRAY_DOUBLE_INDEX_SCALE", type := .int, accessFlags := 25, slot := 9, constantValue := 0 }, { name := "LOG2_BYTE_BIT_SIZE", type := .int, accessFlags := 26, slot := 10, constantValue := 0 }, { name := "T_BOOLEAN", type := .int, accessFlags := 25, slot := 11, constantValue := 0 }, { name := "T_CHAR", type := .int, accessFlags := 25, slot := 12, constantValue := 0 }, { name := "T_FLOAT", type := .int, accessFlags := 25, slot := 13, constantValue := 0 }, { name := "T_DOUBLE", type := .int, accessFlags := 25, slot := 14, constantValue := 0 }, { name := "T_BYTE", type := .int, accessFlags := 25, slot := 15, constantValue := 0 }, { name := "T_SHORT", type := .int, accessFlags := 25, slot := 16, constantValue := 0 }, { name := "T_INT", type := .int, accessFlags := 25, slot := 17, constantValue := 0 }, { name := "T_LONG", type := .int, accessFlags := 25, slot := 18, constantValue := 0 }, { name := "JLA", type := (.object "jdk/internal/access/JavaLangAccess"), accessFlags := 26, slot := 19, constantValue := 0 }, { name := "SOFT_MAX_ARRAY_LENGTH", type := .int, accessFlags := 25, slot := 20, constantValue := 0 }]
  methods := #[k14m0]
  instanceTypes := #[]
  staticTypes := #[(.object "jdk/internal/misc/Unsafe"), .boolean, .int, .int, .int, .int, .int, .int, .int, .int, .int, .int, .int, .int, .int, .int, .int, .int, .int, (.object "jdk/internal/access/JavaLangAccess"), .int]
  resolved := Array.replicate 378 none
  statics := none }

def pool15 : Array CpInfo := pool [(1, u "java/lang/Cloneable"), (0, .class_ 1), (0, u "java/lang/Object"), (0, .class_ 3)] 3

/-- java/lang/Cloneable -/
def k15 : Class := { plain "java/lang/Cloneable" (some 0) with
  accessFlags := 1537
  interfaces := #[]
  cf := some (fileOf pool15 2 #[] #[] 1537 4 #[] #[])
  fields := #[]
  methods := #[]
  instanceTypes := #[]
  staticTypes := #[]
  resolved := Array.replicate 8 none
  statics := none }

/-- the primitive byte -/
def k16 : Class := { plain "byte" none with kind := .primitive 'B', accessFlags := 0x411 }
/-- [B -/
def k17 : Class := { plain "[B" (some 0) with kind := .array 16 .byte, interfaces := #[15, 2], accessFlags := 1041 }

/-- the primitive char -/
def k18 : Class := { plain "char" none with kind := .primitive 'C', accessFlags := 0x411 }
/-- [C -/
def k19 : Class := { plain "[C" (some 0) with kind := .array 18 .char, interfaces := #[15, 2], accessFlags := 1041 }

/-- the primitive int -/
def k20 : Class := { plain "int" none with kind := .primitive 'I', accessFlags := 0x411 }
/-- [I -/
def k21 : Class := { plain "[I" (some 0) with kind := .array 20 .int, interfaces := #[15, 2], accessFlags := 1041 }

def heap : Heap := #[{ cls := 7, slots := #[.long 0, .int 1, .null, .int 0, .null, .int 0, .int 0], vm := .statics 7 },
  { cls := 13, slots := #[.null, .null, .null], vm := .statics 13 }]
def classes : Array Class := #[k0, k1, k2, k3, k4, k5, k6, k7, k8, k9, k10, k11, k12, k13, k14, k15, k16, k17, k18, k19, k20, k21]
def interned : List (Array UInt16 × Addr) := []
def slotsUsed : Nat := 10
def theMethod : MethodId := ⟨1, 1⟩
def args0 : Array Value := #[.int 77, .int 9, .int 3, .int 4, .int 5]
def aboutOver (below : List Frame) : State where
  vm := { classes := classes, interned := interned.toArray }
  heap := heap
  slotsUsed := slotsUsed
  threads := #[{ frames := .invoking theMethod args0 :: below }]
def below0 : List Frame := [.native { method := ⟨0, 0⟩, args := #[] }]
def about1 : State := aboutOver below0
def p0 : Program := .bare "" "" ""
def e0 : Env := launch0.env 0 0 0
theorem w_frames : about1.frames = Frame.invoking theMethod args0 :: below0 := rfl
set_option maxRecDepth 65536 in
theorem w_args : argsFit about1.vm theMethod args0 = true := by decide +kernel
set_option maxRecDepth 65536 in
theorem w_heap : heapFits about1 = true := by decide +kernel
set_option maxRecDepth 65536 in
theorem w_runnable : about1.curStatus? = some .runnable := by decide +kernel
set_option maxRecDepth 65536 in
theorem w_alone : about1.alone = true := by decide +kernel
set_option maxRecDepth 65536 in
theorem w_named : about1.methodNamed? x = some theMethod := by decide +kernel
set_option maxRecDepth 65536 in
theorem w_hears : about1.hears theMethod below0 = true := by decide +kernel
set_option maxRecDepth 65536 in
theorem w_ripe : about1.ripe theMethod args0 below0 = true := by decide +kernel
theorem w_running : about1.status = .running := rfl
set_option maxRecDepth 65536 in
theorem w_room : about1.hasRoom e0.platform room_1 = true :=
  launch0.hasRoom_least _ room_1 (by decide +kernel) (by decide +kernel) (by decide +kernel) (by decide +kernel) (by decide +kernel) (by decide +kernel)
theorem allAtoms_all (ts : List Jvm.Cond) (a : Array Jvm.Value) (st : Jvm.State) : (allAtoms ts).before a st = ts.all (fun c => c.before a st) := by
  induction ts with
  | nil => rfl
  | cons c t ih =>
    show (Jvm.Cond.and c (allAtoms t)).before a st = _
    rw [Jvm.Cond.before_and, ih, List.all_cons]
def words1 : List Jvm.Cond := Jvm.Cond.code x code maxLocals ret :: tables_1
/-- a 'code' word, met by the world's own term for the bytes: nothing is compared byte by byte -/
theorem code_word {y : MethodName} {bytes : ByteArray} {mx : Nat} {rt : Option FieldType} {a : Array Value} {s : State} {m : MethodId} {meth : Method} {c : Code} (h1 : s.methodNamed? y = some m) (h2 : s.vm.method? m = some meth) (h3 : meth.code = some c) (h4 : c.code = bytes)
    (h5 : (c.maxLocals == mx && c.exceptionTable.isEmpty && decide (c.maxStack ≤ mostOperands) && decide (meth.sig.returnType = rt) && !meth.locks && decide (parseMethodDescriptor y.desc = some meth.sig)) = true) : (Jvm.Cond.code y bytes mx rt).before a s = true := by
  simp only [Bool.and_eq_true, beq_iff_eq, Bool.not_eq_true', decide_eq_true_eq] at h5
  obtain ⟨⟨⟨⟨⟨g1, g2⟩, g3⟩, g4⟩, g5⟩, g6⟩ := h5
  simp [Cond.before, Cond.holds, Cond.value, h1, h2, h3, h4, g1, g2, g3, g4, g5, g6]
def isCode : Jvm.Cond → Bool
  | .code _ _ _ _ => true
  | _ => false
theorem all_split {L : List Jvm.Cond} {P : Jvm.Cond → Bool} (h1 : L.all (fun c => isCode c || P c) = true) (h2 : ∀ c ∈ L.filter isCode, P c = true) : L.all P = true := by
  refine List.all_eq_true.mpr fun c hc => ?_
  have h := List.all_eq_true.mp h1 c hc
  rcases Bool.eq_false_or_eq_true (isCode c) with hi | hi
  · exact h2 c (List.mem_filter.mpr ⟨hc, hi⟩)
  · simpa [hi] using h
set_option maxRecDepth 65536 in
theorem w_c0 : (Jvm.Cond.code x code maxLocals ret).before args0 about1 = true := code_word (m := ⟨1, 1⟩) (meth := k1m1) (c := k1c1) (by decide +kernel) rfl rfl rfl (by decide +kernel)
set_option maxRecDepth 65536 in
theorem w_c1 : (Jvm.Cond.code ({ cls := "java/lang/String", name := "<init>", desc := "([C)V" } : Jvm.MethodName) jdk_42_method_3_code (2 : Nat) (Option.none : Option Jvm.ClassFile.FieldType)).before args0 about1 = true := code_word (m := ⟨7, 1⟩) (meth := k7m1) (c := k7c1) (by decide +kernel) rfl rfl rfl (by decide +kernel)
set_option maxRecDepth 65536 in
theorem w_c2 : (Jvm.Cond.code ({ cls := "java/lang/String", name := "<init>", desc := "([CIILjava/lang/Void;)V" } : Jvm.MethodName) jdk_42_method_149_code (6 : Nat) (Option.none : Option Jvm.ClassFile.FieldType)).before args0 about1 = true := code_word (m := ⟨7, 4⟩) (meth := k7m4) (c := k7c4) (by decide +kernel) rfl rfl rfl (by decide +kernel)
set_option maxRecDepth 65536 in
theorem w_c3 : (Jvm.Cond.code ({ cls := "java/lang/Object", name := "<init>", desc := "()V" } : Jvm.MethodName) object_method_1_code (1 : Nat) (Option.none : Option Jvm.ClassFile.FieldType)).before args0 about1 = true := code_word (m := ⟨0, 0⟩) (meth := k0m0) (c := k0c0) (by decide +kernel) rfl rfl rfl (by decide +kernel)
set_option maxRecDepth 65536 in
theorem w_c4 : (Jvm.Cond.code ({ cls := "java/lang/StringUTF16", name := "compress", desc := "([CII)[B" } : Jvm.MethodName) jdk_52_method_16_code (6 : Nat) (Option.some (Jvm.ClassFile.FieldType.array Jvm.ClassFile.FieldType.byte))).before args0 about1 = true := code_word (m := ⟨8, 2⟩) (meth := k8m2) (c := k8c2) (by decide +kernel) rfl rfl rfl (by decide +kernel)
set_option maxRecDepth 65536 in
theorem w_c5 : (Jvm.Cond.code ({ cls := "java/lang/StringUTF16", name := "compress", desc := "([CI[BII)I" } : Jvm.MethodName) jdk_52_method_21_code (7 : Nat) (Option.some Jvm.ClassFile.FieldType.int)).before args0 about1 = true := code_word (m := ⟨8, 3⟩) (meth := k8m3) (c := k8c3) (by decide +kernel) rfl rfl rfl (by decide +kernel)
set_option maxRecDepth 65536 in
theorem w_c6 : (Jvm.Cond.code ({ cls := "java/lang/StringUTF16", name := "coderFromArrayLen", desc := "([BI)B" } : Jvm.MethodName) jdk_52_method_15_code (2 : Nat) (Option.some Jvm.ClassFile.FieldType.byte)).before args0 about1 = true := code_word (m := ⟨8, 1⟩) (meth := k8m1) (c := k8c1) (by decide +kernel) rfl rfl rfl (by decide +kernel)
set_option maxRecDepth 65536 in
theorem w_c7 : (Jvm.Cond.code ({ cls := "com/example/vigilant_consumer/vigilantconsumer/TopicPartition", name := "<init>", desc := "(Ljava/lang/String;I)V" } : Jvm.MethodName) prog_59_method_1_code (3 : Nat) (Option.none : Option Jvm.ClassFile.FieldType)).before args0 about1 = true := code_word (m := ⟨10, 0⟩) (meth := k10m0) (c := k10c0) (by decide +kernel) rfl rfl rfl (by decide +kernel)
set_option maxRecDepth 65536 in
theorem w_c8 : (Jvm.Cond.code ({ cls := "java/lang/Record", name := "<init>", desc := "()V" } : Jvm.MethodName) jdk_30_method_1_code (1 : Nat) (Option.none : Option Jvm.ClassFile.FieldType)).before args0 about1 = true := code_word (m := ⟨9, 0⟩) (meth := k9m0) (c := k9c0) (by decide +kernel) rfl rfl rfl (by decide +kernel)
set_option maxRecDepth 65536 in
theorem w_c9 : (Jvm.Cond.code ({ cls := "java/util/Objects", name := "requireNonNull", desc := "(Ljava/lang/Object;Ljava/lang/String;)Ljava/lang/Object;" } : Jvm.MethodName) jdk_31_method_11_code (2 : Nat) (Option.some (Jvm.ClassFile.FieldType.object "java/lang/Object"))).before args0 about1 = true := code_word (m := ⟨11, 1⟩) (meth := k11m1) (c := k11c1) (by decide +kernel) rfl rfl rfl (by decide +kernel)
set_option maxRecDepth 65536 in
theorem w_c10 : (Jvm.Cond.code ({ cls := "java/lang/String", name := "isEmpty", desc := "()Z" } : Jvm.MethodName) jdk_42_method_55_code (1 : Nat) (Option.some Jvm.ClassFile.FieldType.boolean)).before args0 about1 = true := code_word (m := ⟨7, 2⟩) (meth := k7m2) (c := k7c2) (by decide +kernel) rfl rfl rfl (by decide +kernel)
set_option maxRecDepth 65536 in
theorem w_c11 : (Jvm.Cond.code ({ cls := "com/example/vigilant_consumer/vigilantconsumer/TopicPartition", name := "equals", desc := "(Ljava/lang/Object;)Z" } : Jvm.MethodName) prog_59_method_2_code (3 : Nat) (Option.some Jvm.ClassFile.FieldType.boolean)).before args0 about1 = true := code_word (m := ⟨10, 1⟩) (meth := k10m1) (c := k10c1) (by decide +kernel) rfl rfl rfl (by decide +kernel)
set_option maxRecDepth 65536 in
theorem w_c12 : (Jvm.Cond.code ({ cls := "java/lang/String", name := "equals", desc := "(Ljava/lang/Object;)Z" } : Jvm.MethodName) jdk_42_method_66_code (3 : Nat) (Option.some Jvm.ClassFile.FieldType.boolean)).before args0 about1 = true := code_word (m := ⟨7, 3⟩) (meth := k7m3) (c := k7c3) (by decide +kernel) rfl rfl rfl (by decide +kernel)
set_option maxRecDepth 65536 in
theorem w_c13 : (Jvm.Cond.code ({ cls := "java/lang/StringLatin1", name := "equals", desc := "([B[B)Z" } : Jvm.MethodName) jdk_43_method_13_code (3 : Nat) (Option.some Jvm.ClassFile.FieldType.boolean)).before args0 about1 = true := code_word (m := ⟨12, 1⟩) (meth := k12m1) (c := k12c1) (by decide +kernel) rfl rfl rfl (by decide +kernel)
def codes1 : List Jvm.Cond := [Jvm.Cond.code x code maxLocals ret, Jvm.Cond.code ({ cls := "java/lang/String", name := "<init>", desc := "([C)V" } : Jvm.MethodName) jdk_42_method_3_code (2 : Nat) (Option.none : Option Jvm.ClassFile.FieldType), Jvm.Cond.code ({ cls := "java/lang/String", name := "<init>", desc := "([CIILjava/lang/Void;)V" } : Jvm.MethodName) jdk_42_method_149_code (6 : Nat) (Option.none : Option Jvm.ClassFile.FieldType), Jvm.Cond.code ({ cls := "java/lang/Object", name := "<init>", desc := "()V" } : Jvm.MethodName) object_method_1_code (1 : Nat) (Option.none : Option Jvm.ClassFile.FieldType), Jvm.Cond.code ({ cls := "java/lang/StringUTF16", name := "compress", desc := "([CII)[B" } : Jvm.MethodName) jdk_52_method_16_code (6 : Nat) (Option.some (Jvm.ClassFile.FieldType.array Jvm.ClassFile.FieldType.byte)), Jvm.Cond.code ({ cls := "java/lang/StringUTF16", name := "compress", desc := "([CI[BII)I" } : Jvm.MethodName) jdk_52_method_21_code (7 : Nat) (Option.some Jvm.ClassFile.FieldType.int), Jvm.Cond.code ({ cls := "java/lang/StringUTF16", name := "coderFromArrayLen", desc := "([BI)B" } : Jvm.MethodName) jdk_52_method_15_code (2 : Nat) (Option.some Jvm.ClassFile.FieldType.byte), Jvm.Cond.code ({ cls := "com/example/vigilant_consumer/vigilantconsumer/TopicPartition", name := "<init>", desc := "(Ljava/lang/String;I)V" } : Jvm.MethodName) prog_59_method_1_code (3 : Nat) (Option.none : Option Jvm.ClassFile.FieldType), Jvm.Cond.code ({ cls := "java/lang/Record", name := "<init>", desc := "()V" } : Jvm.MethodName) jdk_30_method_1_code (1 : Nat) (Option.none : Option Jvm.ClassFile.FieldType), Jvm.Cond.code ({ cls := "java/util/Objects", name := "requireNonNull", desc := "(Ljava/lang/Object;Ljava/lang/String;)Ljava/lang/Object;" } : Jvm.MethodName) jdk_31_method_11_code (2 : Nat) (Option.some (Jvm.ClassFile.FieldType.object "java/lang/Object")), Jvm.Cond.code ({ cls := "java/lang/String", name := "isEmpty", desc := "()Z" } : Jvm.MethodName) jdk_42_method_55_code (1 : Nat) (Option.some Jvm.ClassFile.FieldType.boolean), Jvm.Cond.code ({ cls := "com/example/vigilant_consumer/vigilantconsumer/TopicPartition", name := "equals", desc := "(Ljava/lang/Object;)Z" } : Jvm.MethodName) prog_59_method_2_code (3 : Nat) (Option.some Jvm.ClassFile.FieldType.boolean), Jvm.Cond.code ({ cls := "java/lang/String", name := "equals", desc := "(Ljava/lang/Object;)Z" } : Jvm.MethodName) jdk_42_method_66_code (3 : Nat) (Option.some Jvm.ClassFile.FieldType.boolean), Jvm.Cond.code ({ cls := "java/lang/StringLatin1", name := "equals", desc := "([B[B)Z" } : Jvm.MethodName) jdk_43_method_13_code (3 : Nat) (Option.some Jvm.ClassFile.FieldType.boolean)]
set_option maxRecDepth 65536 in
theorem codes_eq : words1.filter isCode = codes1 := rfl
theorem w_codes : ∀ c ∈ words1.filter isCode, c.before args0 about1 = true := by
  rw [codes_eq]
  intro c hc
  simp only [codes1, List.mem_cons, List.not_mem_nil, or_false] at hc
  rcases hc with rfl | rfl | rfl | rfl | rfl | rfl | rfl | rfl | rfl | rfl | rfl | rfl | rfl | rfl
  · exact w_c0
  · exact w_c1
  · exact w_c2
  · exact w_c3
  · exact w_c4
  · exact w_c5
  · exact w_c6
  · exact w_c7
  · exact w_c8
  · exact w_c9
  · exact w_c10
  · exact w_c11
  · exact w_c12
  · exact w_c13
set_option maxRecDepth 65536 in
theorem w_t1 : (words1.take 24).all (fun c => isCode c || c.before args0 about1) = true := by decide +kernel
set_option maxRecDepth 65536 in
theorem w_t2 : ((words1.drop 24).take 24).all (fun c => isCode c || c.before args0 about1) = true := by decide +kernel
set_option maxRecDepth 65536 in
theorem w_t3 : (((words1.drop 24).drop 24).take 24).all (fun c => isCode c || c.before args0 about1) = true := by decide +kernel
set_option maxRecDepth 65536 in
theorem w_t4 : (((words1.drop 24).drop 24).drop 24).all (fun c => isCode c || c.before args0 about1) = true := by decide +kernel
theorem w_tables : (allAtoms (Jvm.Cond.code x code maxLocals ret :: tables_1)).before args0 about1 = true := by
  rw [allAtoms_all]
  show words1.all (fun c => c.before args0 about1) = true
  refine all_split ?_ w_codes
  rw [← List.take_append_drop 24 words1, List.all_append, w_t1, ← List.take_append_drop 24 (words1.drop 24), List.all_append, w_t2, ← List.take_append_drop 24 ((words1.drop 24).drop 24), List.all_append, w_t3, w_t4]
  rfl
set_option maxRecDepth 65536 in
theorem w_rest : rest_1_c.before args0 about1 = true := by decide +kernel
set_option maxRecDepth 65536 in
theorem w_case : (Jvm.Cond.and given_1 narrow_1).before args0 about1 = true := by decide +kernel
theorem w_applies : (headSpec (Jvm.Cond.code x code maxLocals ret :: tables_1) room_1).applies x e0.platform about1 = true :=
  (Spec.applies_iff w_frames).mpr ⟨w_running, w_runnable, w_alone, w_named, w_hears, w_ripe, w_room, w_tables⟩
theorem atStart : AtStart classFile x code maxLocals ret World_1 tables_1 room_1 Calls_1 rest_1 Pre_1 launch0 p0 e0 about1 theMethod args0 below0 :=
  ⟨lists_1, trivial, launch0.admits_env _ _ _, launch0.least_env, fairChoices_fair.cas, fairChoices_fair.clock, w_frames, w_args, w_heap, w_applies, trivial, w_rest, w_case⟩
end start1
theorem witness_1 : WitnessClaimed_1 := ⟨start1.p0, start1.e0, start1.about1, start1.theMethod, start1.args0, start1.below0, start1.atStart⟩
end Jvm.Pilot.@@N@@
