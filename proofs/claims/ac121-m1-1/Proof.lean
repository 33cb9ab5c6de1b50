import JvmDerived
import JvmDerived.Pilot.@@N@@Statement
import JvmDerived.Pilot.@@N@@Code
set_option linter.unusedVariables false
set_option linter.unusedSimpArgs false
namespace Jvm.RoadKit
open Sem ClassFile Op Lib Jvm.Stand Jvm.Free Jvm.LawKit
section New
variable {p : Program} {l : Launch} {e : Env} {R : Room} {s : State} {m : MethodId} {args : Array Value} {below : List Frame} {meth : Method} {c : Code} {T : State} {locs : List Loc} {cells slots : Nat}
theorem retI (X : Stand p l e R s m args below meth c T locs cells slots) (hx : p.tables.exec = Jvm.exec) {pc : Nat} {Ls : Array Slot} {z : Int32} {rest : List Value} (hret : meth.sig.returnType = some .int) (hd : decode c.code pc = .ok (.ireturn, 1)) {fs : List Frame}
    (hl : ∀ (f : JFrame) (acts : List Action), f.method = m → f.locked = none → f.entered = [] → (doReturn e (T.setTop f) acts (some (.int z))).1 = T.setFrames fs) : Steps p.tables e below (T.setTop (mkF m pc Ls (.int z :: rest))) (T.setFrames fs) := by
  have hm' : T.vm.method? m = some meth := X.method'
  have hn : narrow .int (.int z) = .int z := rfl
  show Steps p.tables e below (T.setTop { method := m, pc := pc, locals := Ls, stack := _ :: rest, locked := none }) _
  jvm_step X.here [X.here.top, hx, hd, hm', hret, hn]
  first | (intro acts; rw [hl _ acts rfl rfl rfl]) | rw [hl _ _ rfl rfl rfl]
  exact Steps.refl _
end New
end Jvm.RoadKit
namespace Jvm.Pilot.@@N@@
open Jvm Jvm.ClassFile Sem Op Lib Jvm.Free Jvm.Stand Jvm.LawKit Jvm.RoadKit Bundle Jvm.Pilot.@@N@@.Jvm.D
theorem own_nb {P : Prop} [Decidable P] : nar .boolean (if P then (1 : Int32) else (0 : Int32)) = if P then (1 : Int32) else (0 : Int32) := by split <;> rfl
theorem own_nb2 {z : Int32} (h : z = 0 ∨ z = 1) : nar .boolean z = z := by rcases h with rfl | rfl <;> rfl
theorem own_01 {P : Prop} [Decidable P] : (if P then (1 : Int32) else (0 : Int32)) = 0 ∨ (if P then (1 : Int32) else (0 : Int32)) = 1 := by split <;> simp
theorem own_iv {a b : Int32} (h : a = b) : some (Value.int a) = some (Value.int b) := by rw [h]
theorem own_lv {a b : Int64} (h : a = b) : some (Value.long a) = some (Value.long b) := by rw [h]
theorem own_fldI {args : Array Value} {s : State} {t : Term} {C n d : String} {a : Addr} {k : Int32} (ht : t.eval args s none [] s = some (.ref a)) (h : (Jvm.Cond.eq (.field t C n d) (.int k)).value args s none s [] = some true) : Fld s s.heap a C n d (.int k) := by
  apply Fld.start
  rw [← fld_at (C := C) (n := n) (dd := d) ht]
  cases hx : (Term.field t C n d).eval args s none [] s with
  | none => simp [Cond.value, hx] at h
  | some x => cases x <;> simp [Cond.value, hx, Term.int_eval] at h ⊢ <;> exact h
def own_ec (c : Int32) : List (Int32 × Addr) → Value
  | [] => .null
  | x :: r => if x.1 = c then .ref x.2 else own_ec c r
theorem own_ec_pos {c k : Int32} {a : Addr} {r : List (Int32 × Addr)} (h : k = c) : own_ec c ((k, a) :: r) = .ref a := if_pos h
theorem own_ec_neg {c k : Int32} {a : Addr} {r : List (Int32 × Addr)} (h : ¬ k = c) : own_ec c ((k, a) :: r) = own_ec c r := if_neg h
theorem own_ec_ref (c : Int32) : ∀ L : List (Int32 × Addr), (own_ec c L).isRef = true
  | [] => rfl
  | x :: r => by
    show (if x.1 = c then Value.ref x.2 else own_ec c r).isRef = true
    split
    · rfl
    · exact own_ec_ref c r
theorem own_ec_some {c : Int32} {L : List (Int32 × Addr)} (h : ¬ own_ec c L = .null) : ∃ a, own_ec c L = .ref a := by
  have q := own_ec_ref c L
  cases hv : own_ec c L with
  | ref a => exact ⟨a, rfl⟩
  | null => exact absurd hv h
  | _ => rw [hv] at q; cases q
theorem own_narref {t : FieldType} {v : Value} (ht : t.isReference = true) (h : v.isRef = true) : narrow t v = v := by cases t <;> cases v <;> first | rfl | (cases ht; done) | (cases h; done)
theorem own_idx (x : Int32) : ¬ (((x &&& (2147483647 : Int32)) % (23 : Int32)) < 0) ∧ ((x &&& (2147483647 : Int32)) % (23 : Int32)) < (23 : Int32) := by
  have h0 : 0 ≤ (x &&& (2147483647 : Int32)).toInt := (c_and x 2147483647 (by decide)).1
  have h1 := (c_irem (x &&& (2147483647 : Int32)) 23 23 rfl).1 h0
  have h3 : (0 : Int32).toInt = 0 := rfl
  have h4 : (23 : Int32).toInt = 23 := rfl
  rw [Int32.lt_iff_toInt_lt, Int32.lt_iff_toInt_lt]; omega
theorem own_lt23 : ∀ jj, jj < 23 → (jj = 0 ∨ jj = 1 ∨ jj = 2 ∨ jj = 3 ∨ jj = 4 ∨ jj = 5 ∨ jj = 6 ∨ jj = 7 ∨ jj = 8 ∨ jj = 9 ∨ jj = 10 ∨ jj = 11 ∨ jj = 12 ∨ jj = 13 ∨ jj = 14 ∨ jj = 15 ∨ jj = 16 ∨ jj = 17 ∨ jj = 18 ∨ jj = 19 ∨ jj = 20 ∨ jj = 21 ∨ jj = 22) := by decide
theorem own_sz {args : Array Value} {s : State} {t : Term} {a : Addr} {cl : Cell} {k : Int32} (ht : t.eval args s none [] s = some (.ref a)) (hc : s.heap[a]? = some cl) (h : (Jvm.Cond.eq (.length t) (.int k)).value args s none s [] = some true) : cl.slots.size.toInt32 = k ∧ cl.slots.size < 2 ^ 31 := by
  cases hx : (Term.length t).eval args s none [] s with
  | none => simp [Cond.value, hx] at h
  | some v =>
    obtain ⟨a', c', e1, e2, rfl⟩ := Term.length_spec hx
    cases ht.symm.trans e1
    cases hc.symm.trans (State.arrayAt?_spec e2).1
    refine ⟨by simpa [Cond.value, hx, Term.int_eval] using h, ?_⟩
    by_cases q : cl.slots.size < 2 ^ 31
    · exact q
    · simp [Term.eval, ht, e2, q] at hx
theorem own_el {args : Array Value} {s : State} {t u : Term} {a w : Addr} {cl : Cell} {k : Int32} {i : Nat} (ht : t.eval args s none [] s = some (.ref a)) (hc : s.heap[a]? = some cl) (hu : u.eval args s none [] s = some (.ref w)) (hk : k.toNatClampNeg = i) (h : (Jvm.Cond.eq (.elem t (.int k)) u).value args s none s [] = some true) : cl.slots[i]? = some (.ref w) := by
  cases hx : (Term.elem t (.int k)).eval args s none [] s with
  | none => simp [Cond.value, hx] at h
  | some v =>
    obtain ⟨c', e1, -, e2⟩ := elem_at hx ht (Term.int_eval k)
    cases hc.symm.trans e1
    rw [← hk, e2]
    cases v <;> simp [Cond.value, hx, hu] at h ⊢
    exact h
theorem own_d2_0 : decode prog_14_method_1_code 0 = .ok (.getstatic 73, 3) := by decide +kernel
theorem own_d2_3 : decode prog_14_method_1_code 3 = .ok (.invokevirtual 77, 3) := by decide +kernel
theorem own_d2_6 : decode prog_14_method_1_code 6 = .ok (.checkcast 78, 3) := by decide +kernel
theorem own_d2_9 : decode prog_14_method_1_code 9 = .ok (.areturn, 1) := by decide +kernel
theorem own_pn0 : plainName "com/example/vigilant_consumer/vigilantconsumer/ErrorCode" = true := by first | (simp [plainName, overriddenIn]; done) | decide +kernel
theorem own_ef2 (m : MethodId)  : entryFrame m #[] 0 = mkF m 0 #[] [] := by first | (simp [entryFrame, mkF, argsToLocals, Value.category]; done) | rfl
def own_Q_own_vals (Z : State) (va : Addr) (kv : ClassId) (w0 : Addr) (w1 : Addr) (w2 : Addr) (w3 : Addr) (w4 : Addr) (w5 : Addr) (w6 : Addr) (w7 : Addr) (w8 : Addr) (w9 : Addr) (w10 : Addr) (w11 : Addr) (w12 : Addr) (w13 : Addr) (w14 : Addr) (w15 : Addr) (w16 : Addr) (w17 : Addr) (w18 : Addr) (w19 : Addr) (w20 : Addr) (w21 : Addr) (w22 : Addr) (h0 : Heap) (n0 : Nat) (v : Option Value) (h : Heap) (L : List Loc) : Prop := ∃ (b : Addr), v = some (.ref b) ∧ Fr n0 L ∧ Keep h0 h [] ∧ Arv Z h b kv (.object "com/example/vigilant_consumer/vigilantconsumer/ErrorCode") (23 : Int32) [(.ref w0), (.ref w1), (.ref w2), (.ref w3), (.ref w4), (.ref w5), (.ref w6), (.ref w7), (.ref w8), (.ref w9), (.ref w10), (.ref w11), (.ref w12), (.ref w13), (.ref w14), (.ref w15), (.ref w16), (.ref w17), (.ref w18), (.ref w19), (.ref w20), (.ref w21), (.ref w22)] .null ∧ h0.size ≤ b
set_option maxRecDepth 65536 in
set_option maxHeartbeats 40000000 in
theorem own_vals (l : Launch) (Z : State) (a0 : Array Value) (hw : ∀ d ∈ tables_1, d.before a0 Z = true) (ws : List Jvm.Cond) (va : Addr) (kv : ClassId) (w0 : Addr) (w1 : Addr) (w2 : Addr) (w3 : Addr) (w4 : Addr) (w5 : Addr) (w6 : Addr) (w7 : Addr) (w8 : Addr) (w9 : Addr) (w10 : Addr) (w11 : Addr) (w12 : Addr) (w13 : Addr) (w14 : Addr) (w15 : Addr) (w16 : Addr) (w17 : Addr) (w18 : Addr) (w19 : Addr) (w20 : Addr) (w21 : Addr) (w22 : Addr) (h0 : Heap) (n0 : Nat) (Z0 : n0 ≤ h0.size) (S_V : Sta Z h0 "com/example/vigilant_consumer/vigilantconsumer/ErrorCode" "$VALUES" "[Lcom/example/vigilant_consumer/vigilantconsumer/ErrorCode;" (.ref va)) (VV : Arv Z h0 va kv (.object "com/example/vigilant_consumer/vigilantconsumer/ErrorCode") (23 : Int32) [(.ref w0), (.ref w1), (.ref w2), (.ref w3), (.ref w4), (.ref w5), (.ref w6), (.ref w7), (.ref w8), (.ref w9), (.ref w10), (.ref w11), (.ref w12), (.ref w13), (.ref w14), (.ref w15), (.ref w16), (.ref w17), (.ref w18), (.ref w19), (.ref w20), (.ref w21), (.ref w22)] .null) (EV : Exa Z h0 va "[Lcom/example/vigilant_consumer/vigilantconsumer/ErrorCode;") :
    MetFree l (⟨"com/example/vigilant_consumer/vigilantconsumer/ErrorCode", "values", "()[Lcom/example/vigilant_consumer/vigilantconsumer/ErrorCode;"⟩ : MethodName) (head1 (Jvm.Cond.code (⟨"com/example/vigilant_consumer/vigilantconsumer/ErrorCode", "values", "()[Lcom/example/vigilant_consumer/vigilantconsumer/ErrorCode;"⟩ : MethodName) prog_14_method_1_code 0 (some (.array (.object "com/example/vigilant_consumer/vigilantconsumer/ErrorCode"))) :: ws) ({ frames := 1, cells := 1, slots := 23, locals := 14 } : Room)) (fun as_ U => as_ = #[] ∧ Z.Warmed39 U.vm ∧ U.heap = h0) (fun _ _ _ _ _ => True) (fun _ U o U' => ∃ v L, o = .returned v ∧ own_Q_own_vals Z va kv w0 w1 w2 w3 w4 w5 w6 w7 w8 w9 w10 w11 w12 w13 w14 w15 w16 w17 w18 w19 w20 w21 w22 h0 n0 v U'.heap L ∧ FrameEnd U o U' L ({ frames := 1, cells := 1, slots := 23, locals := 14 } : Room).cells ({ frames := 1, cells := 1, slots := 23, locals := 14 } : Room).slots) := by
  refine MetFree.of_bodySF (plainFor_of_name own_pn0) hisR ?_
  intro p e s m args below meth c s₁ Bd hml0 hP hK
  obtain ⟨rfl, hZ, hh⟩ := hP
  have hx := Bd.exec
  have hby := Bd.bytes
  have hml : c.maxLocals = 0 := hml0
  have hown : s.vm.findClass "com/example/vigilant_consumer/vigilantconsumer/ErrorCode" = some m.cls := findClass_of_methodNamed Bd.named
  have hnm := (name_of_methodNamed Bd.named Bd.method).1
  have X0 : Stand p l e ({ frames := 1, cells := 1, slots := 23, locals := 14 } : Room) s m #[] below meth c s₁ [] 0 0 := Stand.of_body Bd
  have e0 : s₁.heap = h0 := by rw [← hh, Bd.state]; rfl
  have N0 := Fr.nil n0
  have pre0 : ∀ t, Steps p.tables e below (s₁.setTop (mkF m 0 #[] [])) t → Steps p.tables e below (s₁.setTop (entryFrame m #[] 0)) t := fun t k => castTop (own_ef2 m ) k
  have KP := Keep.refl h0 ([] : List Addr)
  obtain ⟨T1, X1, e1, st1⟩ := getS2 X0 hx hZ hown (host := "") (Or.inl (hw _ (List.mem_of_getElem? (i := 56) rfl))) Via.refl e0 S_V (g := (mkF m 0 #[] [])) rfl (hb hby own_d2_0)
  obtain ⟨T2, h2, X2, e2, E2, V2, Q2, st2⟩ := cloneH X1 hx hZ hown (hw _ (List.mem_of_getElem? (i := 58) rfl)) (hw _ (List.mem_of_getElem? (i := 59) rfl)) (hw _ (List.mem_of_getElem? (i := 63) rfl)) (hw _ (List.mem_of_getElem? (i := 61) rfl)) (hw _ (List.mem_of_getElem? (i := 62) rfl)) (hw _ (List.mem_of_getElem? (i := 64) rfl)) e1 VV.arh EV (g := (mkF m 3 #[] [(.ref va)])) rfl (by rw [hml]; rfl) rfl (hb hby own_d2_3) (by decide) (W := 0) (cap := 23) (by show 2 * 0 + _ ≤ _; exact Nat.le_of_eq rfl) (by decide) (by decide) (by decide) (by decide)
  obtain ⟨b2, g2⟩ : ∃ z, z = h0.size := ⟨_, rfl⟩
  rw [← g2] at V2 Q2 st2
  have g_b2 : n0 ≤ b2 := Nat.le_trans Z0 (Nat.le_of_eq g2.symm)
  have sz_b2 : h0.size ≤ b2 := Nat.le_trans KP.1 (Nat.le_of_eq g2.symm)
  have ne_va_b2 : va ≠ b2 := Nat.ne_of_lt (Nat.lt_of_lt_of_le VV.lt (Nat.le_of_eq g2.symm))
  have VV := VV.ext E2
  have EV := EV.ext E2
  have S_V := S_V.ext E2
  have Z3 : n0 ≤ h2.size := Nat.le_trans Z0 E2.1
  have KP := KP.ext E2
  have V_b2 : Arv Z h2 b2 kv (.object "com/example/vigilant_consumer/vigilantconsumer/ErrorCode") (23 : Int32) [(.ref w0), (.ref w1), (.ref w2), (.ref w3), (.ref w4), (.ref w5), (.ref w6), (.ref w7), (.ref w8), (.ref w9), (.ref w10), (.ref w11), (.ref w12), (.ref w13), (.ref w14), (.ref w15), (.ref w16), (.ref w17), (.ref w18), (.ref w19), (.ref w20), (.ref w21), (.ref w22)] .null := V2
  obtain ⟨T4, X4, e4, st4⟩ := castY X2 hx hZ hown (hw _ (List.mem_of_getElem? (i := 66) rfl)) e2 (Ins.self Q2) (g := (mkF m 6 #[] [(.ref b2)])) rfl rfl (hb hby own_d2_6)
  obtain ⟨fs, hr, hrun, hended, hW, hsame⟩ := X4.leave (v := some (.ref b2)) (fun h => by rw [Bd.returns] at h; cases h)
  refine ⟨_, _, pre0 _ ?_, hrun, hended, _, _, rfl, ?_, ⟨_, rfl⟩, hW, hsame.mono (by decide) (by decide)⟩
  · show Steps p.tables e below (s₁.setTop (mkF m 0 #[] [])) _
    refine st1 _ ?_
    show Steps p.tables e below (T1.setTop (mkF m 3 #[] [(.ref va)])) _
    refine st2 _ ?_
    show Steps p.tables e below (T2.setTop (mkF m 6 #[] [(.ref b2)])) _
    refine st4 _ ?_
    show Steps p.tables e below (T4.setTop (mkF m 9 #[] [(.ref b2)])) _
    exact retOut X4 hx (t := (.array (.object "com/example/vigilant_consumer/vigilantconsumer/ErrorCode"))) Bd.returns rfl (Or.inr (Or.inr (Or.inr (Or.inr ⟨rfl, rfl, rfl⟩)))) (hb hby own_d2_9) hr
  · show own_Q_own_vals Z va kv w0 w1 w2 w3 w4 w5 w6 w7 w8 w9 w10 w11 w12 w13 w14 w15 w16 w17 w18 w19 w20 w21 w22 h0 n0 _ T4.heap _
    rw [e4]
    exact ⟨b2, rfl, N0, KP, V_b2, sz_b2⟩
theorem own_pd0 : parseMethodDescriptor "()[Lcom/example/vigilant_consumer/vigilantconsumer/ErrorCode;" = some ⟨[], some (.array (.object "com/example/vigilant_consumer/vigilantconsumer/ErrorCode"))⟩ := by decide +kernel
theorem own_d1_0 : decode prog_14_method_4_code 0 = .ok (.invokestatic 100, 3) := by decide +kernel
theorem own_d1_3 : decode prog_14_method_4_code 3 = .ok (.astore_n 1, 1) := by decide +kernel
theorem own_d1_4 : decode prog_14_method_4_code 4 = .ok (.aload_n 1, 1) := by decide +kernel
theorem own_d1_5 : decode prog_14_method_4_code 5 = .ok (.arraylength, 1) := by decide +kernel
theorem own_d1_6 : decode prog_14_method_4_code 6 = .ok (.istore_n 2, 1) := by decide +kernel
theorem own_d1_7 : decode prog_14_method_4_code 7 = .ok (.iconst 0, 1) := by decide +kernel
theorem own_d1_8 : decode prog_14_method_4_code 8 = .ok (.istore_n 3, 1) := by decide +kernel
theorem own_d1_9 : decode prog_14_method_4_code 9 = .ok (.iload_n 3, 1) := by decide +kernel
theorem own_d1_10 : decode prog_14_method_4_code 10 = .ok (.iload_n 2, 1) := by decide +kernel
theorem own_d1_11 : decode prog_14_method_4_code 11 = .ok (.if_icmp .ge 26, 3) := by decide +kernel
theorem own_d1_14 : decode prog_14_method_4_code 14 = .ok (.aload_n 1, 1) := by decide +kernel
theorem own_d1_15 : decode prog_14_method_4_code 15 = .ok (.iload_n 3, 1) := by decide +kernel
theorem own_d1_16 : decode prog_14_method_4_code 16 = .ok (.aaload, 1) := by decide +kernel
theorem own_d1_17 : decode prog_14_method_4_code 17 = .ok (.astore 4, 2) := by decide +kernel
theorem own_d1_19 : decode prog_14_method_4_code 19 = .ok (.aload 4, 2) := by decide +kernel
theorem own_d1_21 : decode prog_14_method_4_code 21 = .ok (.getfield 92, 3) := by decide +kernel
theorem own_d1_24 : decode prog_14_method_4_code 24 = .ok (.iload_n 0, 1) := by decide +kernel
theorem own_d1_25 : decode prog_14_method_4_code 25 = .ok (.if_icmp .ne 6, 3) := by decide +kernel
theorem own_d1_28 : decode prog_14_method_4_code 28 = .ok (.aload 4, 2) := by decide +kernel
theorem own_d1_30 : decode prog_14_method_4_code 30 = .ok (.areturn, 1) := by decide +kernel
theorem own_d1_31 : decode prog_14_method_4_code 31 = .ok (.iinc 3 1, 3) := by decide +kernel
theorem own_d1_34 : decode prog_14_method_4_code 34 = .ok (.goto (-25), 3) := by decide +kernel
theorem own_d1_37 : decode prog_14_method_4_code 37 = .ok (.aconst_null, 1) := by decide +kernel
theorem own_d1_38 : decode prog_14_method_4_code 38 = .ok (.areturn, 1) := by decide +kernel
theorem own_ef1 (m : MethodId) (x0 : Int32) : entryFrame m #[(.int x0)] 5 = mkF m 0 #[.val (.int x0), .unset, .unset, .unset, .unset] [] := by first | (simp [entryFrame, mkF, argsToLocals, Value.category]; done) | rfl
def own_Q_own_of (Z : State) (c1 : Int32) (va : Addr) (kv : ClassId) (w0 : Addr) (w1 : Addr) (w2 : Addr) (w3 : Addr) (w4 : Addr) (w5 : Addr) (w6 : Addr) (w7 : Addr) (w8 : Addr) (w9 : Addr) (w10 : Addr) (w11 : Addr) (w12 : Addr) (w13 : Addr) (w14 : Addr) (w15 : Addr) (w16 : Addr) (w17 : Addr) (w18 : Addr) (w19 : Addr) (w20 : Addr) (w21 : Addr) (w22 : Addr) (h0 : Heap) (n0 : Nat) (v : Option Value) (h : Heap) (L : List Loc) : Prop := v = some (own_ec c1 [((0 : Int32), w0), ((1 : Int32), w1), ((3 : Int32), w2), ((5 : Int32), w3), ((6 : Int32), w4), ((9 : Int32), w5), ((14 : Int32), w6), ((15 : Int32), w7), ((16 : Int32), w8), ((22 : Int32), w9), ((23 : Int32), w10), ((25 : Int32), w11), ((26 : Int32), w12), ((27 : Int32), w13), ((29 : Int32), w14), ((30 : Int32), w15), ((35 : Int32), w16), ((42 : Int32), w17), ((56 : Int32), w18), ((74 : Int32), w19), ((75 : Int32), w20), ((78 : Int32), w21), ((79 : Int32), w22)]) ∧ Fr n0 L ∧ Keep h0 h []
set_option maxRecDepth 65536 in
set_option maxHeartbeats 40000000 in
theorem own_of (l : Launch) (Z : State) (a0 : Array Value) (hw : ∀ d ∈ tables_1, d.before a0 Z = true) (ws : List Jvm.Cond) (c1 : Int32) (va : Addr) (kv : ClassId) (w0 : Addr) (w1 : Addr) (w2 : Addr) (w3 : Addr) (w4 : Addr) (w5 : Addr) (w6 : Addr) (w7 : Addr) (w8 : Addr) (w9 : Addr) (w10 : Addr) (w11 : Addr) (w12 : Addr) (w13 : Addr) (w14 : Addr) (w15 : Addr) (w16 : Addr) (w17 : Addr) (w18 : Addr) (w19 : Addr) (w20 : Addr) (w21 : Addr) (w22 : Addr) (h0 : Heap) (n0 : Nat) (Z0 : n0 ≤ h0.size) (S_V : Sta Z h0 "com/example/vigilant_consumer/vigilantconsumer/ErrorCode" "$VALUES" "[Lcom/example/vigilant_consumer/vigilantconsumer/ErrorCode;" (.ref va)) (VV : Arv Z h0 va kv (.object "com/example/vigilant_consumer/vigilantconsumer/ErrorCode") (23 : Int32) [(.ref w0), (.ref w1), (.ref w2), (.ref w3), (.ref w4), (.ref w5), (.ref w6), (.ref w7), (.ref w8), (.ref w9), (.ref w10), (.ref w11), (.ref w12), (.ref w13), (.ref w14), (.ref w15), (.ref w16), (.ref w17), (.ref w18), (.ref w19), (.ref w20), (.ref w21), (.ref w22)] .null) (EV : Exa Z h0 va "[Lcom/example/vigilant_consumer/vigilantconsumer/ErrorCode;") (F0 : Fld Z h0 w0 "com/example/vigilant_consumer/vigilantconsumer/ErrorCode" "code" "S" (.int (0 : Int32))) (F1 : Fld Z h0 w1 "com/example/vigilant_consumer/vigilantconsumer/ErrorCode" "code" "S" (.int (1 : Int32))) (F2 : Fld Z h0 w2 "com/example/vigilant_consumer/vigilantconsumer/ErrorCode" "code" "S" (.int (3 : Int32))) (F3 : Fld Z h0 w3 "com/example/vigilant_consumer/vigilantconsumer/ErrorCode" "code" "S" (.int (5 : Int32))) (F4 : Fld Z h0 w4 "com/example/vigilant_consumer/vigilantconsumer/ErrorCode" "code" "S" (.int (6 : Int32))) (F5 : Fld Z h0 w5 "com/example/vigilant_consumer/vigilantconsumer/ErrorCode" "code" "S" (.int (9 : Int32))) (F6 : Fld Z h0 w6 "com/example/vigilant_consumer/vigilantconsumer/ErrorCode" "code" "S" (.int (14 : Int32))) (F7 : Fld Z h0 w7 "com/example/vigilant_consumer/vigilantconsumer/ErrorCode" "code" "S" (.int (15 : Int32))) (F8 : Fld Z h0 w8 "com/example/vigilant_consumer/vigilantconsumer/ErrorCode" "code" "S" (.int (16 : Int32))) (F9 : Fld Z h0 w9 "com/example/vigilant_consumer/vigilantconsumer/ErrorCode" "code" "S" (.int (22 : Int32))) (F10 : Fld Z h0 w10 "com/example/vigilant_consumer/vigilantconsumer/ErrorCode" "code" "S" (.int (23 : Int32))) (F11 : Fld Z h0 w11 "com/example/vigilant_consumer/vigilantconsumer/ErrorCode" "code" "S" (.int (25 : Int32))) (F12 : Fld Z h0 w12 "com/example/vigilant_consumer/vigilantconsumer/ErrorCode" "code" "S" (.int (26 : Int32))) (F13 : Fld Z h0 w13 "com/example/vigilant_consumer/vigilantconsumer/ErrorCode" "code" "S" (.int (27 : Int32))) (F14 : Fld Z h0 w14 "com/example/vigilant_consumer/vigilantconsumer/ErrorCode" "code" "S" (.int (29 : Int32))) (F15 : Fld Z h0 w15 "com/example/vigilant_consumer/vigilantconsumer/ErrorCode" "code" "S" (.int (30 : Int32))) (F16 : Fld Z h0 w16 "com/example/vigilant_consumer/vigilantconsumer/ErrorCode" "code" "S" (.int (35 : Int32))) (F17 : Fld Z h0 w17 "com/example/vigilant_consumer/vigilantconsumer/ErrorCode" "code" "S" (.int (42 : Int32))) (F18 : Fld Z h0 w18 "com/example/vigilant_consumer/vigilantconsumer/ErrorCode" "code" "S" (.int (56 : Int32))) (F19 : Fld Z h0 w19 "com/example/vigilant_consumer/vigilantconsumer/ErrorCode" "code" "S" (.int (74 : Int32))) (F20 : Fld Z h0 w20 "com/example/vigilant_consumer/vigilantconsumer/ErrorCode" "code" "S" (.int (75 : Int32))) (F21 : Fld Z h0 w21 "com/example/vigilant_consumer/vigilantconsumer/ErrorCode" "code" "S" (.int (78 : Int32))) (F22 : Fld Z h0 w22 "com/example/vigilant_consumer/vigilantconsumer/ErrorCode" "code" "S" (.int (79 : Int32))) :
    MetFree l (⟨"com/example/vigilant_consumer/vigilantconsumer/ErrorCode", "of", "(S)Lcom/example/vigilant_consumer/vigilantconsumer/ErrorCode;"⟩ : MethodName) (head1 (Jvm.Cond.code (⟨"com/example/vigilant_consumer/vigilantconsumer/ErrorCode", "of", "(S)Lcom/example/vigilant_consumer/vigilantconsumer/ErrorCode;"⟩ : MethodName) prog_14_method_4_code 5 (some (.object "com/example/vigilant_consumer/vigilantconsumer/ErrorCode")) :: ws) ({ frames := 2, cells := 1, slots := 23, locals := 25 } : Room)) (fun as_ U => as_ = #[(.int c1)] ∧ Z.Warmed39 U.vm ∧ U.heap = h0) (fun _ _ _ _ _ => True) (fun _ U o U' => ∃ v L, o = .returned v ∧ own_Q_own_of Z c1 va kv w0 w1 w2 w3 w4 w5 w6 w7 w8 w9 w10 w11 w12 w13 w14 w15 w16 w17 w18 w19 w20 w21 w22 h0 n0 v U'.heap L ∧ FrameEnd U o U' L ({ frames := 2, cells := 1, slots := 23, locals := 25 } : Room).cells ({ frames := 2, cells := 1, slots := 23, locals := 25 } : Room).slots) := by
  refine MetFree.of_bodySF (plainFor_of_name own_pn0) hisR ?_
  intro p e s m args below meth c s₁ Bd hml0 hP hK
  obtain ⟨rfl, hZ, hh⟩ := hP
  have hx := Bd.exec
  have hby := Bd.bytes
  have hml : c.maxLocals = 5 := hml0
  have hown : s.vm.findClass "com/example/vigilant_consumer/vigilantconsumer/ErrorCode" = some m.cls := findClass_of_methodNamed Bd.named
  have hnm := (name_of_methodNamed Bd.named Bd.method).1
  have X0 : Stand p l e ({ frames := 2, cells := 1, slots := 23, locals := 25 } : Room) s m #[(.int c1)] below meth c s₁ [] 0 0 := Stand.of_body Bd
  have e0 : s₁.heap = h0 := by rw [← hh, Bd.state]; rfl
  have N0 := Fr.nil n0
  have pre0 : ∀ t, Steps p.tables e below (s₁.setTop (mkF m 0 #[.val (.int c1), .unset, .unset, .unset, .unset] [])) t → Steps p.tables e below (s₁.setTop (entryFrame m #[(.int c1)] 5)) t := fun t k => castTop (own_ef1 m c1) k
  have KP := Keep.refl h0 ([] : List Addr)
  obtain ⟨_, _, ⟨T1, L1, k1, n1⟩, -, X1, ⟨Lc1, hQ1, l1, y1, z1⟩, st1⟩ := Jvm.LawKit.callS X0 hx (y := (⟨"com/example/vigilant_consumer/vigilantconsumer/ErrorCode", "values", "()[Lcom/example/vigilant_consumer/vigilantconsumer/ErrorCode;"⟩ : MethodName)) hown (mvT hZ (hw _ (List.mem_of_getElem? (i := 53) rfl))) (mvT hZ (hw _ (List.mem_of_getElem? (i := 54) rfl))) (mvT hZ (hw _ (List.mem_of_getElem? (i := 3) rfl))) (mvT hZ (hw _ (List.mem_of_getElem? (i := 55) rfl))) (by decide) (backOf (W := 0) (own_vals l Z a0 hw []  va kv w0 w1 w2 w3 w4 w5 w6 w7 w8 w9 w10 w11 w12 w13 w14 w15 w16 w17 w18 w19 w20 w21 w22 h0 n0 Z0 S_V VV EV) hZ (hw _ (List.mem_of_getElem? (i := 55) rfl)) (hw _ (List.mem_of_getElem? (i := 3) rfl)) (by decide) (by decide)) (g := (mkF m 0 #[.val (.int c1), .unset, .unset, .unset, .unset] [])) rfl (by rw [hml]; rfl) (argsL := []) (rest := []) (lenOf own_pd0 rfl) rfl (by show 2 * 0 + _ ≤ _; exact Nat.le_of_eq rfl) (hb hby own_d1_0) (fun _ _ => ⟨rfl, e0, (by decide : 0 + 1 ≤ _), (by decide : 0 + 23 ≤ _)⟩)
  dsimp only [Pt.U, Pt.locs, Pt.cells, Pt.slots] at X1 l1 y1 z1 st1 hQ1
  subst l1 y1 z1
  obtain ⟨b1, rfl, N1q, K1, VB1, sz1⟩ := hQ1
  have N1 := Fr.app N0 N1q
  have VV := VV.keep K1 nin0
  have EV := EV.keep K1
  have F0 := F0.keep K1 nin0
  have F1 := F1.keep K1 nin0
  have F2 := F2.keep K1 nin0
  have F3 := F3.keep K1 nin0
  have F4 := F4.keep K1 nin0
  have F5 := F5.keep K1 nin0
  have F6 := F6.keep K1 nin0
  have F7 := F7.keep K1 nin0
  have F8 := F8.keep K1 nin0
  have F9 := F9.keep K1 nin0
  have F10 := F10.keep K1 nin0
  have F11 := F11.keep K1 nin0
  have F12 := F12.keep K1 nin0
  have F13 := F13.keep K1 nin0
  have F14 := F14.keep K1 nin0
  have F15 := F15.keep K1 nin0
  have F16 := F16.keep K1 nin0
  have F17 := F17.keep K1 nin0
  have F18 := F18.keep K1 nin0
  have F19 := F19.keep K1 nin0
  have F20 := F20.keep K1 nin0
  have F21 := F21.keep K1 nin0
  have F22 := F22.keep K1 nin0
  have Z2 := Nat.le_trans Z0 K1.1
  have KP := KP.trans K1 all0
  obtain ⟨cl3, Ar3, q3, S3, M3, H3, G3⟩ := id VB1
  obtain ⟨cl4, Ar4, q4, S4, M4, H4, G4⟩ := id VB1
  have hin4 : ¬ ((0 : Int32) < 0 ∨ cl4.slots.size ≤ ((0 : Int32)).toNatClampNeg) := inb_of S4 ⟨by decide, by decide⟩
  obtain ⟨T5, X5, e5, st5⟩ := getF X1 hx hZ hown (host := "") (Or.inl (hw _ (List.mem_of_getElem? (i := 68) rfl))) Via.refl rfl F0 (g := (mkF m 21 #[.val (.int c1), .val (.ref b1), .val (.int (23 : Int32)), .val (.int (0 : Int32)), .val (.ref w0)] [(.ref w0)])) rfl rfl (hb hby own_d1_21)
  have pre6 : ∀ t, Steps p.tables e below (T5.setTop (mkF m 25 #[.val (.int c1), .val (.ref b1), .val (.int (23 : Int32)), .val (.int (0 : Int32)), .val (.ref w0)] [(.int c1), (.int (0 : Int32))])) t → Steps p.tables e below (s₁.setTop (entryFrame m #[(.int c1)] 5)) t := fun t k => pre0 t (by
    show Steps p.tables e below (s₁.setTop (mkF m 0 #[.val (.int c1), .unset, .unset, .unset, .unset] [])) _
    refine st1 _ ?_
    show Steps p.tables e below (T1.setTop (mkF m 3 #[.val (.int c1), .unset, .unset, .unset, .unset] [(.ref b1)])) _
    refine XS.astoreN X1.here hx rfl (hb hby own_d1_3) rfl rfl (l' := #[.val (.int c1), .val (.ref b1), .unset, .unset, .unset]) rfl ?_
    show Steps p.tables e below (T1.setTop (mkF m 4 #[.val (.int c1), .val (.ref b1), .unset, .unset, .unset] [])) _
    refine XS.aloadN X1.here hx rfl (hb hby own_d1_4) rfl rfl ?_
    show Steps p.tables e below (T1.setTop (mkF m 5 #[.val (.int c1), .val (.ref b1), .unset, .unset, .unset] [(.ref b1)])) _
    refine X1.arraylength hx Ar3.1 (State.isArrayOf_alike hZ.alike Ar3.2.1) (g := (mkF m 5 #[.val (.int c1), .val (.ref b1), .unset, .unset, .unset] [(.ref b1)])) rfl rfl (hb hby own_d1_5) _ ?_
    rw [len_of S3 M3]
    show Steps p.tables e below (T1.setTop (mkF m 6 #[.val (.int c1), .val (.ref b1), .unset, .unset, .unset] [(.int (23 : Int32))])) _
    refine XS.istoreN X1.here hx rfl (hb hby own_d1_6) rfl (l' := #[.val (.int c1), .val (.ref b1), .val (.int (23 : Int32)), .unset, .unset]) rfl ?_
    show Steps p.tables e below (T1.setTop (mkF m 7 #[.val (.int c1), .val (.ref b1), .val (.int (23 : Int32)), .unset, .unset] [])) _
    refine XS.iconst X1.here hx rfl (hb hby own_d1_7) ?_
    show Steps p.tables e below (T1.setTop (mkF m 8 #[.val (.int c1), .val (.ref b1), .val (.int (23 : Int32)), .unset, .unset] [(.int (0 : Int32))])) _
    refine XS.istoreN X1.here hx rfl (hb hby own_d1_8) rfl (l' := #[.val (.int c1), .val (.ref b1), .val (.int (23 : Int32)), .val (.int (0 : Int32)), .unset]) rfl ?_
    show Steps p.tables e below (T1.setTop (mkF m 9 #[.val (.int c1), .val (.ref b1), .val (.int (23 : Int32)), .val (.int (0 : Int32)), .unset] [])) _
    refine XS.iloadN X1.here hx rfl (hb hby own_d1_9) rfl ?_
    show Steps p.tables e below (T1.setTop (mkF m 10 #[.val (.int c1), .val (.ref b1), .val (.int (23 : Int32)), .val (.int (0 : Int32)), .unset] [(.int (0 : Int32))])) _
    refine XS.iloadN X1.here hx rfl (hb hby own_d1_10) rfl ?_
    show Steps p.tables e below (T1.setTop (mkF m 11 #[.val (.int c1), .val (.ref b1), .val (.int (23 : Int32)), .val (.int (0 : Int32)), .unset] [(.int (23 : Int32)), (.int (0 : Int32))])) _
    refine XS.icmpNo X1.here hx rfl (hb hby own_d1_11) rfl (tlt (by decide : (0 : Int32) < (23 : Int32))).2.1 ?_
    show Steps p.tables e below (T1.setTop (mkF m 14 #[.val (.int c1), .val (.ref b1), .val (.int (23 : Int32)), .val (.int (0 : Int32)), .unset] [])) _
    refine XS.aloadN X1.here hx rfl (hb hby own_d1_14) rfl rfl ?_
    show Steps p.tables e below (T1.setTop (mkF m 15 #[.val (.int c1), .val (.ref b1), .val (.int (23 : Int32)), .val (.int (0 : Int32)), .unset] [(.ref b1)])) _
    refine XS.iloadN X1.here hx rfl (hb hby own_d1_15) rfl ?_
    show Steps p.tables e below (T1.setTop (mkF m 16 #[.val (.int c1), .val (.ref b1), .val (.int (23 : Int32)), .val (.int (0 : Int32)), .unset] [(.int (0 : Int32)), (.ref b1)])) _
    refine X1.aaload hx (j := (0 : Int32)) (v := (.ref w0)) Ar4.1 (State.isArrayOf_alike hZ.alike Ar4.2.1) rfl Ar4.2.2 hin4 (H4.at hin4 rfl) (g := (mkF m 16 #[.val (.int c1), .val (.ref b1), .val (.int (23 : Int32)), .val (.int (0 : Int32)), .unset] [(.int (0 : Int32)), (.ref b1)])) rfl rfl (hb hby own_d1_16) _ ?_
    show Steps p.tables e below (T1.setTop (mkF m 17 #[.val (.int c1), .val (.ref b1), .val (.int (23 : Int32)), .val (.int (0 : Int32)), .unset] [(.ref w0)])) _
    refine XS.astore X1.here hx rfl (hb hby own_d1_17) rfl rfl (l' := #[.val (.int c1), .val (.ref b1), .val (.int (23 : Int32)), .val (.int (0 : Int32)), .val (.ref w0)]) rfl ?_
    show Steps p.tables e below (T1.setTop (mkF m 19 #[.val (.int c1), .val (.ref b1), .val (.int (23 : Int32)), .val (.int (0 : Int32)), .val (.ref w0)] [])) _
    refine XS.aload X1.here hx rfl (hb hby own_d1_19) rfl rfl ?_
    show Steps p.tables e below (T1.setTop (mkF m 21 #[.val (.int c1), .val (.ref b1), .val (.int (23 : Int32)), .val (.int (0 : Int32)), .val (.ref w0)] [(.ref w0)])) _
    refine st5 _ ?_
    show Steps p.tables e below (T5.setTop (mkF m 24 #[.val (.int c1), .val (.ref b1), .val (.int (23 : Int32)), .val (.int (0 : Int32)), .val (.ref w0)] [(.int (0 : Int32))])) _
    refine XS.iloadN X5.here hx rfl (hb hby own_d1_24) rfl ?_
    show Steps p.tables e below (T5.setTop (mkF m 25 #[.val (.int c1), .val (.ref b1), .val (.int (23 : Int32)), .val (.int (0 : Int32)), .val (.ref w0)] [(.int c1), (.int (0 : Int32))])) _
    exact k)
  by_cases hc7 : (0 : Int32) = c1
  · skip
    obtain ⟨fs, hr, hrun, hended, hW, hsame⟩ := X5.leave (v := some (.ref w0)) (fun h => by rw [Bd.returns] at h; cases h)
    refine ⟨_, _, pre6 _ ?_, hrun, hended, _, _, rfl, ?_, ⟨_, rfl⟩, hW, hsame.mono (by decide) (by decide)⟩
    · refine XS.icmpNo X5.here hx rfl (hb hby own_d1_25) rfl (teq hc7).2 ?_
      show Steps p.tables e below (T5.setTop (mkF m 28 #[.val (.int c1), .val (.ref b1), .val (.int (23 : Int32)), .val (.int (0 : Int32)), .val (.ref w0)] [])) _
      refine XS.aload X5.here hx rfl (hb hby own_d1_28) rfl rfl ?_
      show Steps p.tables e below (T5.setTop (mkF m 30 #[.val (.int c1), .val (.ref b1), .val (.int (23 : Int32)), .val (.int (0 : Int32)), .val (.ref w0)] [(.ref w0)])) _
      exact retOut X5 hx (t := (.object "com/example/vigilant_consumer/vigilantconsumer/ErrorCode")) Bd.returns rfl (Or.inr (Or.inr (Or.inr (Or.inr ⟨rfl, rfl, rfl⟩)))) (hb hby own_d1_30) hr
    · show own_Q_own_of Z c1 va kv w0 w1 w2 w3 w4 w5 w6 w7 w8 w9 w10 w11 w12 w13 w14 w15 w16 w17 w18 w19 w20 w21 w22 h0 n0 _ T5.heap _
      rw [e5]
      exact ⟨by rw [own_ec_pos hc7], N1, KP⟩
  · skip
    obtain ⟨cl8, Ar8, q8, S8, M8, H8, G8⟩ := id VB1
    have hin8 : ¬ ((1 : Int32) < 0 ∨ cl8.slots.size ≤ ((1 : Int32)).toNatClampNeg) := inb_of S8 ⟨by decide, by decide⟩
    obtain ⟨T9, X9, e9, st9⟩ := getF X5 hx hZ hown (host := "") (Or.inl (hw _ (List.mem_of_getElem? (i := 68) rfl))) Via.refl e5 F1 (g := (mkF m 21 #[.val (.int c1), .val (.ref b1), .val (.int (23 : Int32)), .val (.int (1 : Int32)), .val (.ref w1)] [(.ref w1)])) rfl rfl (hb hby own_d1_21)
    have pre10 : ∀ t, Steps p.tables e below (T9.setTop (mkF m 25 #[.val (.int c1), .val (.ref b1), .val (.int (23 : Int32)), .val (.int (1 : Int32)), .val (.ref w1)] [(.int c1), (.int (1 : Int32))])) t → Steps p.tables e below (s₁.setTop (entryFrame m #[(.int c1)] 5)) t := fun t k => pre6 t (by
      refine XS.icmpYes X5.here hx rfl (pc0 := 25) (pc' := 31) rfl (hb hby own_d1_25) rfl (feq hc7).2 (by decide) (by decide) ?_
      show Steps p.tables e below (T5.setTop (mkF m 31 #[.val (.int c1), .val (.ref b1), .val (.int (23 : Int32)), .val (.int (0 : Int32)), .val (.ref w0)] [])) _
      refine XS.iinc X5.here hx rfl (hb hby own_d1_31) rfl (l' := #[.val (.int c1), .val (.ref b1), .val (.int (23 : Int32)), .val (.int (1 : Int32)), .val (.ref w0)]) rfl ?_
      show Steps p.tables e below (T5.setTop (mkF m 34 #[.val (.int c1), .val (.ref b1), .val (.int (23 : Int32)), .val (.int (1 : Int32)), .val (.ref w0)] [])) _
      refine XS.goto X5.here hx rfl (pc0 := 34) (pc' := 9) rfl (hb hby own_d1_34) (by decide) (by decide) ?_
      show Steps p.tables e below (T5.setTop (mkF m 9 #[.val (.int c1), .val (.ref b1), .val (.int (23 : Int32)), .val (.int (1 : Int32)), .val (.ref w0)] [])) _
      refine XS.iloadN X5.here hx rfl (hb hby own_d1_9) rfl ?_
      show Steps p.tables e below (T5.setTop (mkF m 10 #[.val (.int c1), .val (.ref b1), .val (.int (23 : Int32)), .val (.int (1 : Int32)), .val (.ref w0)] [(.int (1 : Int32))])) _
      refine XS.iloadN X5.here hx rfl (hb hby own_d1_10) rfl ?_
      show Steps p.tables e below (T5.setTop (mkF m 11 #[.val (.int c1), .val (.ref b1), .val (.int (23 : Int32)), .val (.int (1 : Int32)), .val (.ref w0)] [(.int (23 : Int32)), (.int (1 : Int32))])) _
      refine XS.icmpNo X5.here hx rfl (hb hby own_d1_11) rfl (tlt (by decide : (1 : Int32) < (23 : Int32))).2.1 ?_
      show Steps p.tables e below (T5.setTop (mkF m 14 #[.val (.int c1), .val (.ref b1), .val (.int (23 : Int32)), .val (.int (1 : Int32)), .val (.ref w0)] [])) _
      refine XS.aloadN X5.here hx rfl (hb hby own_d1_14) rfl rfl ?_
      show Steps p.tables e below (T5.setTop (mkF m 15 #[.val (.int c1), .val (.ref b1), .val (.int (23 : Int32)), .val (.int (1 : Int32)), .val (.ref w0)] [(.ref b1)])) _
      refine XS.iloadN X5.here hx rfl (hb hby own_d1_15) rfl ?_
      show Steps p.tables e below (T5.setTop (mkF m 16 #[.val (.int c1), .val (.ref b1), .val (.int (23 : Int32)), .val (.int (1 : Int32)), .val (.ref w0)] [(.int (1 : Int32)), (.ref b1)])) _
      refine X5.aaload hx (j := (1 : Int32)) (v := (.ref w1)) (by rw [e5]; exact Ar8.1) (State.isArrayOf_alike hZ.alike Ar8.2.1) rfl Ar8.2.2 hin8 (H8.at hin8 rfl) (g := (mkF m 16 #[.val (.int c1), .val (.ref b1), .val (.int (23 : Int32)), .val (.int (1 : Int32)), .val (.ref w0)] [(.int (1 : Int32)), (.ref b1)])) rfl rfl (hb hby own_d1_16) _ ?_
      show Steps p.tables e below (T5.setTop (mkF m 17 #[.val (.int c1), .val (.ref b1), .val (.int (23 : Int32)), .val (.int (1 : Int32)), .val (.ref w0)] [(.ref w1)])) _
      refine XS.astore X5.here hx rfl (hb hby own_d1_17) rfl rfl (l' := #[.val (.int c1), .val (.ref b1), .val (.int (23 : Int32)), .val (.int (1 : Int32)), .val (.ref w1)]) rfl ?_
      show Steps p.tables e below (T5.setTop (mkF m 19 #[.val (.int c1), .val (.ref b1), .val (.int (23 : Int32)), .val (.int (1 : Int32)), .val (.ref w1)] [])) _
      refine XS.aload X5.here hx rfl (hb hby own_d1_19) rfl rfl ?_
      show Steps p.tables e below (T5.setTop (mkF m 21 #[.val (.int c1), .val (.ref b1), .val (.int (23 : Int32)), .val (.int (1 : Int32)), .val (.ref w1)] [(.ref w1)])) _
      refine st9 _ ?_
      show Steps p.tables e below (T9.setTop (mkF m 24 #[.val (.int c1), .val (.ref b1), .val (.int (23 : Int32)), .val (.int (1 : Int32)), .val (.ref w1)] [(.int (1 : Int32))])) _
      refine XS.iloadN X9.here hx rfl (hb hby own_d1_24) rfl ?_
      show Steps p.tables e below (T9.setTop (mkF m 25 #[.val (.int c1), .val (.ref b1), .val (.int (23 : Int32)), .val (.int (1 : Int32)), .val (.ref w1)] [(.int c1), (.int (1 : Int32))])) _
      exact k)
    by_cases hc11 : (1 : Int32) = c1
    · skip
      obtain ⟨fs, hr, hrun, hended, hW, hsame⟩ := X9.leave (v := some (.ref w1)) (fun h => by rw [Bd.returns] at h; cases h)
      refine ⟨_, _, pre10 _ ?_, hrun, hended, _, _, rfl, ?_, ⟨_, rfl⟩, hW, hsame.mono (by decide) (by decide)⟩
      · refine XS.icmpNo X9.here hx rfl (hb hby own_d1_25) rfl (teq hc11).2 ?_
        show Steps p.tables e below (T9.setTop (mkF m 28 #[.val (.int c1), .val (.ref b1), .val (.int (23 : Int32)), .val (.int (1 : Int32)), .val (.ref w1)] [])) _
        refine XS.aload X9.here hx rfl (hb hby own_d1_28) rfl rfl ?_
        show Steps p.tables e below (T9.setTop (mkF m 30 #[.val (.int c1), .val (.ref b1), .val (.int (23 : Int32)), .val (.int (1 : Int32)), .val (.ref w1)] [(.ref w1)])) _
        exact retOut X9 hx (t := (.object "com/example/vigilant_consumer/vigilantconsumer/ErrorCode")) Bd.returns rfl (Or.inr (Or.inr (Or.inr (Or.inr ⟨rfl, rfl, rfl⟩)))) (hb hby own_d1_30) hr
      · show own_Q_own_of Z c1 va kv w0 w1 w2 w3 w4 w5 w6 w7 w8 w9 w10 w11 w12 w13 w14 w15 w16 w17 w18 w19 w20 w21 w22 h0 n0 _ T9.heap _
        rw [e9]
        exact ⟨by rw [own_ec_neg hc7, own_ec_pos hc11], N1, KP⟩
    · skip
      obtain ⟨cl12, Ar12, q12, S12, M12, H12, G12⟩ := id VB1
      have hin12 : ¬ ((2 : Int32) < 0 ∨ cl12.slots.size ≤ ((2 : Int32)).toNatClampNeg) := inb_of S12 ⟨by decide, by decide⟩
      obtain ⟨T13, X13, e13, st13⟩ := getF X9 hx hZ hown (host := "") (Or.inl (hw _ (List.mem_of_getElem? (i := 68) rfl))) Via.refl e9 F2 (g := (mkF m 21 #[.val (.int c1), .val (.ref b1), .val (.int (23 : Int32)), .val (.int (2 : Int32)), .val (.ref w2)] [(.ref w2)])) rfl rfl (hb hby own_d1_21)
      have pre14 : ∀ t, Steps p.tables e below (T13.setTop (mkF m 25 #[.val (.int c1), .val (.ref b1), .val (.int (23 : Int32)), .val (.int (2 : Int32)), .val (.ref w2)] [(.int c1), (.int (3 : Int32))])) t → Steps p.tables e below (s₁.setTop (entryFrame m #[(.int c1)] 5)) t := fun t k => pre10 t (by
        refine XS.icmpYes X9.here hx rfl (pc0 := 25) (pc' := 31) rfl (hb hby own_d1_25) rfl (feq hc11).2 (by decide) (by decide) ?_
        show Steps p.tables e below (T9.setTop (mkF m 31 #[.val (.int c1), .val (.ref b1), .val (.int (23 : Int32)), .val (.int (1 : Int32)), .val (.ref w1)] [])) _
        refine XS.iinc X9.here hx rfl (hb hby own_d1_31) rfl (l' := #[.val (.int c1), .val (.ref b1), .val (.int (23 : Int32)), .val (.int (2 : Int32)), .val (.ref w1)]) rfl ?_
        show Steps p.tables e below (T9.setTop (mkF m 34 #[.val (.int c1), .val (.ref b1), .val (.int (23 : Int32)), .val (.int (2 : Int32)), .val (.ref w1)] [])) _
        refine XS.goto X9.here hx rfl (pc0 := 34) (pc' := 9) rfl (hb hby own_d1_34) (by decide) (by decide) ?_
        show Steps p.tables e below (T9.setTop (mkF m 9 #[.val (.int c1), .val (.ref b1), .val (.int (23 : Int32)), .val (.int (2 : Int32)), .val (.ref w1)] [])) _
        refine XS.iloadN X9.here hx rfl (hb hby own_d1_9) rfl ?_
        show Steps p.tables e below (T9.setTop (mkF m 10 #[.val (.int c1), .val (.ref b1), .val (.int (23 : Int32)), .val (.int (2 : Int32)), .val (.ref w1)] [(.int (2 : Int32))])) _
        refine XS.iloadN X9.here hx rfl (hb hby own_d1_10) rfl ?_
        show Steps p.tables e below (T9.setTop (mkF m 11 #[.val (.int c1), .val (.ref b1), .val (.int (23 : Int32)), .val (.int (2 : Int32)), .val (.ref w1)] [(.int (23 : Int32)), (.int (2 : Int32))])) _
        refine XS.icmpNo X9.here hx rfl (hb hby own_d1_11) rfl (tlt (by decide : (2 : Int32) < (23 : Int32))).2.1 ?_
        show Steps p.tables e below (T9.setTop (mkF m 14 #[.val (.int c1), .val (.ref b1), .val (.int (23 : Int32)), .val (.int (2 : Int32)), .val (.ref w1)] [])) _
        refine XS.aloadN X9.here hx rfl (hb hby own_d1_14) rfl rfl ?_
        show Steps p.tables e below (T9.setTop (mkF m 15 #[.val (.int c1), .val (.ref b1), .val (.int (23 : Int32)), .val (.int (2 : Int32)), .val (.ref w1)] [(.ref b1)])) _
        refine XS.iloadN X9.here hx rfl (hb hby own_d1_15) rfl ?_
        show Steps p.tables e below (T9.setTop (mkF m 16 #[.val (.int c1), .val (.ref b1), .val (.int (23 : Int32)), .val (.int (2 : Int32)), .val (.ref w1)] [(.int (2 : Int32)), (.ref b1)])) _
        refine X9.aaload hx (j := (2 : Int32)) (v := (.ref w2)) (by rw [e9]; exact Ar12.1) (State.isArrayOf_alike hZ.alike Ar12.2.1) rfl Ar12.2.2 hin12 (H12.at hin12 rfl) (g := (mkF m 16 #[.val (.int c1), .val (.ref b1), .val (.int (23 : Int32)), .val (.int (2 : Int32)), .val (.ref w1)] [(.int (2 : Int32)), (.ref b1)])) rfl rfl (hb hby own_d1_16) _ ?_
        show Steps p.tables e below (T9.setTop (mkF m 17 #[.val (.int c1), .val (.ref b1), .val (.int (23 : Int32)), .val (.int (2 : Int32)), .val (.ref w1)] [(.ref w2)])) _
        refine XS.astore X9.here hx rfl (hb hby own_d1_17) rfl rfl (l' := #[.val (.int c1), .val (.ref b1), .val (.int (23 : Int32)), .val (.int (2 : Int32)), .val (.ref w2)]) rfl ?_
        show Steps p.tables e below (T9.setTop (mkF m 19 #[.val (.int c1), .val (.ref b1), .val (.int (23 : Int32)), .val (.int (2 : Int32)), .val (.ref w2)] [])) _
        refine XS.aload X9.here hx rfl (hb hby own_d1_19) rfl rfl ?_
        show Steps p.tables e below (T9.setTop (mkF m 21 #[.val (.int c1), .val (.ref b1), .val (.int (23 : Int32)), .val (.int (2 : Int32)), .val (.ref w2)] [(.ref w2)])) _
        refine st13 _ ?_
        show Steps p.tables e below (T13.setTop (mkF m 24 #[.val (.int c1), .val (.ref b1), .val (.int (23 : Int32)), .val (.int (2 : Int32)), .val (.ref w2)] [(.int (3 : Int32))])) _
        refine XS.iloadN X13.here hx rfl (hb hby own_d1_24) rfl ?_
        show Steps p.tables e below (T13.setTop (mkF m 25 #[.val (.int c1), .val (.ref b1), .val (.int (23 : Int32)), .val (.int (2 : Int32)), .val (.ref w2)] [(.int c1), (.int (3 : Int32))])) _
        exact k)
      by_cases hc15 : (3 : Int32) = c1
      · skip
        obtain ⟨fs, hr, hrun, hended, hW, hsame⟩ := X13.leave (v := some (.ref w2)) (fun h => by rw [Bd.returns] at h; cases h)
        refine ⟨_, _, pre14 _ ?_, hrun, hended, _, _, rfl, ?_, ⟨_, rfl⟩, hW, hsame.mono (by decide) (by decide)⟩
        · refine XS.icmpNo X13.here hx rfl (hb hby own_d1_25) rfl (teq hc15).2 ?_
          show Steps p.tables e below (T13.setTop (mkF m 28 #[.val (.int c1), .val (.ref b1), .val (.int (23 : Int32)), .val (.int (2 : Int32)), .val (.ref w2)] [])) _
          refine XS.aload X13.here hx rfl (hb hby own_d1_28) rfl rfl ?_
          show Steps p.tables e below (T13.setTop (mkF m 30 #[.val (.int c1), .val (.ref b1), .val (.int (23 : Int32)), .val (.int (2 : Int32)), .val (.ref w2)] [(.ref w2)])) _
          exact retOut X13 hx (t := (.object "com/example/vigilant_consumer/vigilantconsumer/ErrorCode")) Bd.returns rfl (Or.inr (Or.inr (Or.inr (Or.inr ⟨rfl, rfl, rfl⟩)))) (hb hby own_d1_30) hr
        · show own_Q_own_of Z c1 va kv w0 w1 w2 w3 w4 w5 w6 w7 w8 w9 w10 w11 w12 w13 w14 w15 w16 w17 w18 w19 w20 w21 w22 h0 n0 _ T13.heap _
          rw [e13]
          exact ⟨by rw [own_ec_neg hc7, own_ec_neg hc11, own_ec_pos hc15], N1, KP⟩
      · skip
        obtain ⟨cl16, Ar16, q16, S16, M16, H16, G16⟩ := id VB1
        have hin16 : ¬ ((3 : Int32) < 0 ∨ cl16.slots.size ≤ ((3 : Int32)).toNatClampNeg) := inb_of S16 ⟨by decide, by decide⟩
        obtain ⟨T17, X17, e17, st17⟩ := getF X13 hx hZ hown (host := "") (Or.inl (hw _ (List.mem_of_getElem? (i := 68) rfl))) Via.refl e13 F3 (g := (mkF m 21 #[.val (.int c1), .val (.ref b1), .val (.int (23 : Int32)), .val (.int (3 : Int32)), .val (.ref w3)] [(.ref w3)])) rfl rfl (hb hby own_d1_21)
        have pre18 : ∀ t, Steps p.tables e below (T17.setTop (mkF m 25 #[.val (.int c1), .val (.ref b1), .val (.int (23 : Int32)), .val (.int (3 : Int32)), .val (.ref w3)] [(.int c1), (.int (5 : Int32))])) t → Steps p.tables e below (s₁.setTop (entryFrame m #[(.int c1)] 5)) t := fun t k => pre14 t (by
          refine XS.icmpYes X13.here hx rfl (pc0 := 25) (pc' := 31) rfl (hb hby own_d1_25) rfl (feq hc15).2 (by decide) (by decide) ?_
          show Steps p.tables e below (T13.setTop (mkF m 31 #[.val (.int c1), .val (.ref b1), .val (.int (23 : Int32)), .val (.int (2 : Int32)), .val (.ref w2)] [])) _
          refine XS.iinc X13.here hx rfl (hb hby own_d1_31) rfl (l' := #[.val (.int c1), .val (.ref b1), .val (.int (23 : Int32)), .val (.int (3 : Int32)), .val (.ref w2)]) rfl ?_
          show Steps p.tables e below (T13.setTop (mkF m 34 #[.val (.int c1), .val (.ref b1), .val (.int (23 : Int32)), .val (.int (3 : Int32)), .val (.ref w2)] [])) _
          refine XS.goto X13.here hx rfl (pc0 := 34) (pc' := 9) rfl (hb hby own_d1_34) (by decide) (by decide) ?_
          show Steps p.tables e below (T13.setTop (mkF m 9 #[.val (.int c1), .val (.ref b1), .val (.int (23 : Int32)), .val (.int (3 : Int32)), .val (.ref w2)] [])) _
          refine XS.iloadN X13.here hx rfl (hb hby own_d1_9) rfl ?_
          show Steps p.tables e below (T13.setTop (mkF m 10 #[.val (.int c1), .val (.ref b1), .val (.int (23 : Int32)), .val (.int (3 : Int32)), .val (.ref w2)] [(.int (3 : Int32))])) _
          refine XS.iloadN X13.here hx rfl (hb hby own_d1_10) rfl ?_
          show Steps p.tables e below (T13.setTop (mkF m 11 #[.val (.int c1), .val (.ref b1), .val (.int (23 : Int32)), .val (.int (3 : Int32)), .val (.ref w2)] [(.int (23 : Int32)), (.int (3 : Int32))])) _
          refine XS.icmpNo X13.here hx rfl (hb hby own_d1_11) rfl (tlt (by decide : (3 : Int32) < (23 : Int32))).2.1 ?_
          show Steps p.tables e below (T13.setTop (mkF m 14 #[.val (.int c1), .val (.ref b1), .val (.int (23 : Int32)), .val (.int (3 : Int32)), .val (.ref w2)] [])) _
          refine XS.aloadN X13.here hx rfl (hb hby own_d1_14) rfl rfl ?_
          show Steps p.tables e below (T13.setTop (mkF m 15 #[.val (.int c1), .val (.ref b1), .val (.int (23 : Int32)), .val (.int (3 : Int32)), .val (.ref w2)] [(.ref b1)])) _
          refine XS.iloadN X13.here hx rfl (hb hby own_d1_15) rfl ?_
          show Steps p.tables e below (T13.setTop (mkF m 16 #[.val (.int c1), .val (.ref b1), .val (.int (23 : Int32)), .val (.int (3 : Int32)), .val (.ref w2)] [(.int (3 : Int32)), (.ref b1)])) _
          refine X13.aaload hx (j := (3 : Int32)) (v := (.ref w3)) (by rw [e13]; exact Ar16.1) (State.isArrayOf_alike hZ.alike Ar16.2.1) rfl Ar16.2.2 hin16 (H16.at hin16 rfl) (g := (mkF m 16 #[.val (.int c1), .val (.ref b1), .val (.int (23 : Int32)), .val (.int (3 : Int32)), .val (.ref w2)] [(.int (3 : Int32)), (.ref b1)])) rfl rfl (hb hby own_d1_16) _ ?_
          show Steps p.tables e below (T13.setTop (mkF m 17 #[.val (.int c1), .val (.ref b1), .val (.int (23 : Int32)), .val (.int (3 : Int32)), .val (.ref w2)] [(.ref w3)])) _
          refine XS.astore X13.here hx rfl (hb hby own_d1_17) rfl rfl (l' := #[.val (.int c1), .val (.ref b1), .val (.int (23 : Int32)), .val (.int (3 : Int32)), .val (.ref w3)]) rfl ?_
          show Steps p.tables e below (T13.setTop (mkF m 19 #[.val (.int c1), .val (.ref b1), .val (.int (23 : Int32)), .val (.int (3 : Int32)), .val (.ref w3)] [])) _
          refine XS.aload X13.here hx rfl (hb hby own_d1_19) rfl rfl ?_
          show Steps p.tables e below (T13.setTop (mkF m 21 #[.val (.int c1), .val (.ref b1), .val (.int (23 : Int32)), .val (.int (3 : Int32)), .val (.ref w3)] [(.ref w3)])) _
          refine st17 _ ?_
          show Steps p.tables e below (T17.setTop (mkF m 24 #[.val (.int c1), .val (.ref b1), .val (.int (23 : Int32)), .val (.int (3 : Int32)), .val (.ref w3)] [(.int (5 : Int32))])) _
          refine XS.iloadN X17.here hx rfl (hb hby own_d1_24) rfl ?_
          show Steps p.tables e below (T17.setTop (mkF m 25 #[.val (.int c1), .val (.ref b1), .val (.int (23 : Int32)), .val (.int (3 : Int32)), .val (.ref w3)] [(.int c1), (.int (5 : Int32))])) _
          exact k)
        by_cases hc19 : (5 : Int32) = c1
        · skip
          obtain ⟨fs, hr, hrun, hended, hW, hsame⟩ := X17.leave (v := some (.ref w3)) (fun h => by rw [Bd.returns] at h; cases h)
          refine ⟨_, _, pre18 _ ?_, hrun, hended, _, _, rfl, ?_, ⟨_, rfl⟩, hW, hsame.mono (by decide) (by decide)⟩
          · refine XS.icmpNo X17.here hx rfl (hb hby own_d1_25) rfl (teq hc19).2 ?_
            show Steps p.tables e below (T17.setTop (mkF m 28 #[.val (.int c1), .val (.ref b1), .val (.int (23 : Int32)), .val (.int (3 : Int32)), .val (.ref w3)] [])) _
            refine XS.aload X17.here hx rfl (hb hby own_d1_28) rfl rfl ?_
            show Steps p.tables e below (T17.setTop (mkF m 30 #[.val (.int c1), .val (.ref b1), .val (.int (23 : Int32)), .val (.int (3 : Int32)), .val (.ref w3)] [(.ref w3)])) _
            exact retOut X17 hx (t := (.object "com/example/vigilant_consumer/vigilantconsumer/ErrorCode")) Bd.returns rfl (Or.inr (Or.inr (Or.inr (Or.inr ⟨rfl, rfl, rfl⟩)))) (hb hby own_d1_30) hr
          · show own_Q_own_of Z c1 va kv w0 w1 w2 w3 w4 w5 w6 w7 w8 w9 w10 w11 w12 w13 w14 w15 w16 w17 w18 w19 w20 w21 w22 h0 n0 _ T17.heap _
            rw [e17]
            exact ⟨by rw [own_ec_neg hc7, own_ec_neg hc11, own_ec_neg hc15, own_ec_pos hc19], N1, KP⟩
        · skip
          obtain ⟨cl20, Ar20, q20, S20, M20, H20, G20⟩ := id VB1
          have hin20 : ¬ ((4 : Int32) < 0 ∨ cl20.slots.size ≤ ((4 : Int32)).toNatClampNeg) := inb_of S20 ⟨by decide, by decide⟩
          obtain ⟨T21, X21, e21, st21⟩ := getF X17 hx hZ hown (host := "") (Or.inl (hw _ (List.mem_of_getElem? (i := 68) rfl))) Via.refl e17 F4 (g := (mkF m 21 #[.val (.int c1), .val (.ref b1), .val (.int (23 : Int32)), .val (.int (4 : Int32)), .val (.ref w4)] [(.ref w4)])) rfl rfl (hb hby own_d1_21)
          have pre22 : ∀ t, Steps p.tables e below (T21.setTop (mkF m 25 #[.val (.int c1), .val (.ref b1), .val (.int (23 : Int32)), .val (.int (4 : Int32)), .val (.ref w4)] [(.int c1), (.int (6 : Int32))])) t → Steps p.tables e below (s₁.setTop (entryFrame m #[(.int c1)] 5)) t := fun t k => pre18 t (by
            refine XS.icmpYes X17.here hx rfl (pc0 := 25) (pc' := 31) rfl (hb hby own_d1_25) rfl (feq hc19).2 (by decide) (by decide) ?_
            show Steps p.tables e below (T17.setTop (mkF m 31 #[.val (.int c1), .val (.ref b1), .val (.int (23 : Int32)), .val (.int (3 : Int32)), .val (.ref w3)] [])) _
            refine XS.iinc X17.here hx rfl (hb hby own_d1_31) rfl (l' := #[.val (.int c1), .val (.ref b1), .val (.int (23 : Int32)), .val (.int (4 : Int32)), .val (.ref w3)]) rfl ?_
            show Steps p.tables e below (T17.setTop (mkF m 34 #[.val (.int c1), .val (.ref b1), .val (.int (23 : Int32)), .val (.int (4 : Int32)), .val (.ref w3)] [])) _
            refine XS.goto X17.here hx rfl (pc0 := 34) (pc' := 9) rfl (hb hby own_d1_34) (by decide) (by decide) ?_
            show Steps p.tables e below (T17.setTop (mkF m 9 #[.val (.int c1), .val (.ref b1), .val (.int (23 : Int32)), .val (.int (4 : Int32)), .val (.ref w3)] [])) _
            refine XS.iloadN X17.here hx rfl (hb hby own_d1_9) rfl ?_
            show Steps p.tables e below (T17.setTop (mkF m 10 #[.val (.int c1), .val (.ref b1), .val (.int (23 : Int32)), .val (.int (4 : Int32)), .val (.ref w3)] [(.int (4 : Int32))])) _
            refine XS.iloadN X17.here hx rfl (hb hby own_d1_10) rfl ?_
            show Steps p.tables e below (T17.setTop (mkF m 11 #[.val (.int c1), .val (.ref b1), .val (.int (23 : Int32)), .val (.int (4 : Int32)), .val (.ref w3)] [(.int (23 : Int32)), (.int (4 : Int32))])) _
            refine XS.icmpNo X17.here hx rfl (hb hby own_d1_11) rfl (tlt (by decide : (4 : Int32) < (23 : Int32))).2.1 ?_
            show Steps p.tables e below (T17.setTop (mkF m 14 #[.val (.int c1), .val (.ref b1), .val (.int (23 : Int32)), .val (.int (4 : Int32)), .val (.ref w3)] [])) _
            refine XS.aloadN X17.here hx rfl (hb hby own_d1_14) rfl rfl ?_
            show Steps p.tables e below (T17.setTop (mkF m 15 #[.val (.int c1), .val (.ref b1), .val (.int (23 : Int32)), .val (.int (4 : Int32)), .val (.ref w3)] [(.ref b1)])) _
            refine XS.iloadN X17.here hx rfl (hb hby own_d1_15) rfl ?_
            show Steps p.tables e below (T17.setTop (mkF m 16 #[.val (.int c1), .val (.ref b1), .val (.int (23 : Int32)), .val (.int (4 : Int32)), .val (.ref w3)] [(.int (4 : Int32)), (.ref b1)])) _
            refine X17.aaload hx (j := (4 : Int32)) (v := (.ref w4)) (by rw [e17]; exact Ar20.1) (State.isArrayOf_alike hZ.alike Ar20.2.1) rfl Ar20.2.2 hin20 (H20.at hin20 rfl) (g := (mkF m 16 #[.val (.int c1), .val (.ref b1), .val (.int (23 : Int32)), .val (.int (4 : Int32)), .val (.ref w3)] [(.int (4 : Int32)), (.ref b1)])) rfl rfl (hb hby own_d1_16) _ ?_
            show Steps p.tables e below (T17.setTop (mkF m 17 #[.val (.int c1), .val (.ref b1), .val (.int (23 : Int32)), .val (.int (4 : Int32)), .val (.ref w3)] [(.ref w4)])) _
            refine XS.astore X17.here hx rfl (hb hby own_d1_17) rfl rfl (l' := #[.val (.int c1), .val (.ref b1), .val (.int (23 : Int32)), .val (.int (4 : Int32)), .val (.ref w4)]) rfl ?_
            show Steps p.tables e below (T17.setTop (mkF m 19 #[.val (.int c1), .val (.ref b1), .val (.int (23 : Int32)), .val (.int (4 : Int32)), .val (.ref w4)] [])) _
            refine XS.aload X17.here hx rfl (hb hby own_d1_19) rfl rfl ?_
            show Steps p.tables e below (T17.setTop (mkF m 21 #[.val (.int c1), .val (.ref b1), .val (.int (23 : Int32)), .val (.int (4 : Int32)), .val (.ref w4)] [(.ref w4)])) _
            refine st21 _ ?_
            show Steps p.tables e below (T21.setTop (mkF m 24 #[.val (.int c1), .val (.ref b1), .val (.int (23 : Int32)), .val (.int (4 : Int32)), .val (.ref w4)] [(.int (6 : Int32))])) _
            refine XS.iloadN X21.here hx rfl (hb hby own_d1_24) rfl ?_
            show Steps p.tables e below (T21.setTop (mkF m 25 #[.val (.int c1), .val (.ref b1), .val (.int (23 : Int32)), .val (.int (4 : Int32)), .val (.ref w4)] [(.int c1), (.int (6 : Int32))])) _
            exact k)
          by_cases hc23 : (6 : Int32) = c1
          · skip
            obtain ⟨fs, hr, hrun, hended, hW, hsame⟩ := X21.leave (v := some (.ref w4)) (fun h => by rw [Bd.returns] at h; cases h)
            refine ⟨_, _, pre22 _ ?_, hrun, hended, _, _, rfl, ?_, ⟨_, rfl⟩, hW, hsame.mono (by decide) (by decide)⟩
            · refine XS.icmpNo X21.here hx rfl (hb hby own_d1_25) rfl (teq hc23).2 ?_
              show Steps p.tables e below (T21.setTop (mkF m 28 #[.val (.int c1), .val (.ref b1), .val (.int (23 : Int32)), .val (.int (4 : Int32)), .val (.ref w4)] [])) _
              refine XS.aload X21.here hx rfl (hb hby own_d1_28) rfl rfl ?_
              show Steps p.tables e below (T21.setTop (mkF m 30 #[.val (.int c1), .val (.ref b1), .val (.int (23 : Int32)), .val (.int (4 : Int32)), .val (.ref w4)] [(.ref w4)])) _
              exact retOut X21 hx (t := (.object "com/example/vigilant_consumer/vigilantconsumer/ErrorCode")) Bd.returns rfl (Or.inr (Or.inr (Or.inr (Or.inr ⟨rfl, rfl, rfl⟩)))) (hb hby own_d1_30) hr
            · show own_Q_own_of Z c1 va kv w0 w1 w2 w3 w4 w5 w6 w7 w8 w9 w10 w11 w12 w13 w14 w15 w16 w17 w18 w19 w20 w21 w22 h0 n0 _ T21.heap _
              rw [e21]
              exact ⟨by rw [own_ec_neg hc7, own_ec_neg hc11, own_ec_neg hc15, own_ec_neg hc19, own_ec_pos hc23], N1, KP⟩
          · skip
            obtain ⟨cl24, Ar24, q24, S24, M24, H24, G24⟩ := id VB1
            have hin24 : ¬ ((5 : Int32) < 0 ∨ cl24.slots.size ≤ ((5 : Int32)).toNatClampNeg) := inb_of S24 ⟨by decide, by decide⟩
            obtain ⟨T25, X25, e25, st25⟩ := getF X21 hx hZ hown (host := "") (Or.inl (hw _ (List.mem_of_getElem? (i := 68) rfl))) Via.refl e21 F5 (g := (mkF m 21 #[.val (.int c1), .val (.ref b1), .val (.int (23 : Int32)), .val (.int (5 : Int32)), .val (.ref w5)] [(.ref w5)])) rfl rfl (hb hby own_d1_21)
            have pre26 : ∀ t, Steps p.tables e below (T25.setTop (mkF m 25 #[.val (.int c1), .val (.ref b1), .val (.int (23 : Int32)), .val (.int (5 : Int32)), .val (.ref w5)] [(.int c1), (.int (9 : Int32))])) t → Steps p.tables e below (s₁.setTop (entryFrame m #[(.int c1)] 5)) t := fun t k => pre22 t (by
              refine XS.icmpYes X21.here hx rfl (pc0 := 25) (pc' := 31) rfl (hb hby own_d1_25) rfl (feq hc23).2 (by decide) (by decide) ?_
              show Steps p.tables e below (T21.setTop (mkF m 31 #[.val (.int c1), .val (.ref b1), .val (.int (23 : Int32)), .val (.int (4 : Int32)), .val (.ref w4)] [])) _
              refine XS.iinc X21.here hx rfl (hb hby own_d1_31) rfl (l' := #[.val (.int c1), .val (.ref b1), .val (.int (23 : Int32)), .val (.int (5 : Int32)), .val (.ref w4)]) rfl ?_
              show Steps p.tables e below (T21.setTop (mkF m 34 #[.val (.int c1), .val (.ref b1), .val (.int (23 : Int32)), .val (.int (5 : Int32)), .val (.ref w4)] [])) _
              refine XS.goto X21.here hx rfl (pc0 := 34) (pc' := 9) rfl (hb hby own_d1_34) (by decide) (by decide) ?_
              show Steps p.tables e below (T21.setTop (mkF m 9 #[.val (.int c1), .val (.ref b1), .val (.int (23 : Int32)), .val (.int (5 : Int32)), .val (.ref w4)] [])) _
              refine XS.iloadN X21.here hx rfl (hb hby own_d1_9) rfl ?_
              show Steps p.tables e below (T21.setTop (mkF m 10 #[.val (.int c1), .val (.ref b1), .val (.int (23 : Int32)), .val (.int (5 : Int32)), .val (.ref w4)] [(.int (5 : Int32))])) _
              refine XS.iloadN X21.here hx rfl (hb hby own_d1_10) rfl ?_
              show Steps p.tables e below (T21.setTop (mkF m 11 #[.val (.int c1), .val (.ref b1), .val (.int (23 : Int32)), .val (.int (5 : Int32)), .val (.ref w4)] [(.int (23 : Int32)), (.int (5 : Int32))])) _
              refine XS.icmpNo X21.here hx rfl (hb hby own_d1_11) rfl (tlt (by decide : (5 : Int32) < (23 : Int32))).2.1 ?_
              show Steps p.tables e below (T21.setTop (mkF m 14 #[.val (.int c1), .val (.ref b1), .val (.int (23 : Int32)), .val (.int (5 : Int32)), .val (.ref w4)] [])) _
              refine XS.aloadN X21.here hx rfl (hb hby own_d1_14) rfl rfl ?_
              show Steps p.tables e below (T21.setTop (mkF m 15 #[.val (.int c1), .val (.ref b1), .val (.int (23 : Int32)), .val (.int (5 : Int32)), .val (.ref w4)] [(.ref b1)])) _
              refine XS.iloadN X21.here hx rfl (hb hby own_d1_15) rfl ?_
              show Steps p.tables e below (T21.setTop (mkF m 16 #[.val (.int c1), .val (.ref b1), .val (.int (23 : Int32)), .val (.int (5 : Int32)), .val (.ref w4)] [(.int (5 : Int32)), (.ref b1)])) _
              refine X21.aaload hx (j := (5 : Int32)) (v := (.ref w5)) (by rw [e21]; exact Ar24.1) (State.isArrayOf_alike hZ.alike Ar24.2.1) rfl Ar24.2.2 hin24 (H24.at hin24 rfl) (g := (mkF m 16 #[.val (.int c1), .val (.ref b1), .val (.int (23 : Int32)), .val (.int (5 : Int32)), .val (.ref w4)] [(.int (5 : Int32)), (.ref b1)])) rfl rfl (hb hby own_d1_16) _ ?_
              show Steps p.tables e below (T21.setTop (mkF m 17 #[.val (.int c1), .val (.ref b1), .val (.int (23 : Int32)), .val (.int (5 : Int32)), .val (.ref w4)] [(.ref w5)])) _
              refine XS.astore X21.here hx rfl (hb hby own_d1_17) rfl rfl (l' := #[.val (.int c1), .val (.ref b1), .val (.int (23 : Int32)), .val (.int (5 : Int32)), .val (.ref w5)]) rfl ?_
              show Steps p.tables e below (T21.setTop (mkF m 19 #[.val (.int c1), .val (.ref b1), .val (.int (23 : Int32)), .val (.int (5 : Int32)), .val (.ref w5)] [])) _
              refine XS.aload X21.here hx rfl (hb hby own_d1_19) rfl rfl ?_
              show Steps p.tables e below (T21.setTop (mkF m 21 #[.val (.int c1), .val (.ref b1), .val (.int (23 : Int32)), .val (.int (5 : Int32)), .val (.ref w5)] [(.ref w5)])) _
              refine st25 _ ?_
              show Steps p.tables e below (T25.setTop (mkF m 24 #[.val (.int c1), .val (.ref b1), .val (.int (23 : Int32)), .val (.int (5 : Int32)), .val (.ref w5)] [(.int (9 : Int32))])) _
              refine XS.iloadN X25.here hx rfl (hb hby own_d1_24) rfl ?_
              show Steps p.tables e below (T25.setTop (mkF m 25 #[.val (.int c1), .val (.ref b1), .val (.int (23 : Int32)), .val (.int (5 : Int32)), .val (.ref w5)] [(.int c1), (.int (9 : Int32))])) _
              exact k)
            by_cases hc27 : (9 : Int32) = c1
            · skip
              obtain ⟨fs, hr, hrun, hended, hW, hsame⟩ := X25.leave (v := some (.ref w5)) (fun h => by rw [Bd.returns] at h; cases h)
              refine ⟨_, _, pre26 _ ?_, hrun, hended, _, _, rfl, ?_, ⟨_, rfl⟩, hW, hsame.mono (by decide) (by decide)⟩
              · refine XS.icmpNo X25.here hx rfl (hb hby own_d1_25) rfl (teq hc27).2 ?_
                show Steps p.tables e below (T25.setTop (mkF m 28 #[.val (.int c1), .val (.ref b1), .val (.int (23 : Int32)), .val (.int (5 : Int32)), .val (.ref w5)] [])) _
                refine XS.aload X25.here hx rfl (hb hby own_d1_28) rfl rfl ?_
                show Steps p.tables e below (T25.setTop (mkF m 30 #[.val (.int c1), .val (.ref b1), .val (.int (23 : Int32)), .val (.int (5 : Int32)), .val (.ref w5)] [(.ref w5)])) _
                exact retOut X25 hx (t := (.object "com/example/vigilant_consumer/vigilantconsumer/ErrorCode")) Bd.returns rfl (Or.inr (Or.inr (Or.inr (Or.inr ⟨rfl, rfl, rfl⟩)))) (hb hby own_d1_30) hr
              · show own_Q_own_of Z c1 va kv w0 w1 w2 w3 w4 w5 w6 w7 w8 w9 w10 w11 w12 w13 w14 w15 w16 w17 w18 w19 w20 w21 w22 h0 n0 _ T25.heap _
                rw [e25]
                exact ⟨by rw [own_ec_neg hc7, own_ec_neg hc11, own_ec_neg hc15, own_ec_neg hc19, own_ec_neg hc23, own_ec_pos hc27], N1, KP⟩
            · skip
              obtain ⟨cl28, Ar28, q28, S28, M28, H28, G28⟩ := id VB1
              have hin28 : ¬ ((6 : Int32) < 0 ∨ cl28.slots.size ≤ ((6 : Int32)).toNatClampNeg) := inb_of S28 ⟨by decide, by decide⟩
              obtain ⟨T29, X29, e29, st29⟩ := getF X25 hx hZ hown (host := "") (Or.inl (hw _ (List.mem_of_getElem? (i := 68) rfl))) Via.refl e25 F6 (g := (mkF m 21 #[.val (.int c1), .val (.ref b1), .val (.int (23 : Int32)), .val (.int (6 : Int32)), .val (.ref w6)] [(.ref w6)])) rfl rfl (hb hby own_d1_21)
              have pre30 : ∀ t, Steps p.tables e below (T29.setTop (mkF m 25 #[.val (.int c1), .val (.ref b1), .val (.int (23 : Int32)), .val (.int (6 : Int32)), .val (.ref w6)] [(.int c1), (.int (14 : Int32))])) t → Steps p.tables e below (s₁.setTop (entryFrame m #[(.int c1)] 5)) t := fun t k => pre26 t (by
                refine XS.icmpYes X25.here hx rfl (pc0 := 25) (pc' := 31) rfl (hb hby own_d1_25) rfl (feq hc27).2 (by decide) (by decide) ?_
                show Steps p.tables e below (T25.setTop (mkF m 31 #[.val (.int c1), .val (.ref b1), .val (.int (23 : Int32)), .val (.int (5 : Int32)), .val (.ref w5)] [])) _
                refine XS.iinc X25.here hx rfl (hb hby own_d1_31) rfl (l' := #[.val (.int c1), .val (.ref b1), .val (.int (23 : Int32)), .val (.int (6 : Int32)), .val (.ref w5)]) rfl ?_
                show Steps p.tables e below (T25.setTop (mkF m 34 #[.val (.int c1), .val (.ref b1), .val (.int (23 : Int32)), .val (.int (6 : Int32)), .val (.ref w5)] [])) _
                refine XS.goto X25.here hx rfl (pc0 := 34) (pc' := 9) rfl (hb hby own_d1_34) (by decide) (by decide) ?_
                show Steps p.tables e below (T25.setTop (mkF m 9 #[.val (.int c1), .val (.ref b1), .val (.int (23 : Int32)), .val (.int (6 : Int32)), .val (.ref w5)] [])) _
                refine XS.iloadN X25.here hx rfl (hb hby own_d1_9) rfl ?_
                show Steps p.tables e below (T25.setTop (mkF m 10 #[.val (.int c1), .val (.ref b1), .val (.int (23 : Int32)), .val (.int (6 : Int32)), .val (.ref w5)] [(.int (6 : Int32))])) _
                refine XS.iloadN X25.here hx rfl (hb hby own_d1_10) rfl ?_
                show Steps p.tables e below (T25.setTop (mkF m 11 #[.val (.int c1), .val (.ref b1), .val (.int (23 : Int32)), .val (.int (6 : Int32)), .val (.ref w5)] [(.int (23 : Int32)), (.int (6 : Int32))])) _
                refine XS.icmpNo X25.here hx rfl (hb hby own_d1_11) rfl (tlt (by decide : (6 : Int32) < (23 : Int32))).2.1 ?_
                show Steps p.tables e below (T25.setTop (mkF m 14 #[.val (.int c1), .val (.ref b1), .val (.int (23 : Int32)), .val (.int (6 : Int32)), .val (.ref w5)] [])) _
                refine XS.aloadN X25.here hx rfl (hb hby own_d1_14) rfl rfl ?_
                show Steps p.tables e below (T25.setTop (mkF m 15 #[.val (.int c1), .val (.ref b1), .val (.int (23 : Int32)), .val (.int (6 : Int32)), .val (.ref w5)] [(.ref b1)])) _
                refine XS.iloadN X25.here hx rfl (hb hby own_d1_15) rfl ?_
                show Steps p.tables e below (T25.setTop (mkF m 16 #[.val (.int c1), .val (.ref b1), .val (.int (23 : Int32)), .val (.int (6 : Int32)), .val (.ref w5)] [(.int (6 : Int32)), (.ref b1)])) _
                refine X25.aaload hx (j := (6 : Int32)) (v := (.ref w6)) (by rw [e25]; exact Ar28.1) (State.isArrayOf_alike hZ.alike Ar28.2.1) rfl Ar28.2.2 hin28 (H28.at hin28 rfl) (g := (mkF m 16 #[.val (.int c1), .val (.ref b1), .val (.int (23 : Int32)), .val (.int (6 : Int32)), .val (.ref w5)] [(.int (6 : Int32)), (.ref b1)])) rfl rfl (hb hby own_d1_16) _ ?_
                show Steps p.tables e below (T25.setTop (mkF m 17 #[.val (.int c1), .val (.ref b1), .val (.int (23 : Int32)), .val (.int (6 : Int32)), .val (.ref w5)] [(.ref w6)])) _
                refine XS.astore X25.here hx rfl (hb hby own_d1_17) rfl rfl (l' := #[.val (.int c1), .val (.ref b1), .val (.int (23 : Int32)), .val (.int (6 : Int32)), .val (.ref w6)]) rfl ?_
                show Steps p.tables e below (T25.setTop (mkF m 19 #[.val (.int c1), .val (.ref b1), .val (.int (23 : Int32)), .val (.int (6 : Int32)), .val (.ref w6)] [])) _
                refine XS.aload X25.here hx rfl (hb hby own_d1_19) rfl rfl ?_
                show Steps p.tables e below (T25.setTop (mkF m 21 #[.val (.int c1), .val (.ref b1), .val (.int (23 : Int32)), .val (.int (6 : Int32)), .val (.ref w6)] [(.ref w6)])) _
                refine st29 _ ?_
                show Steps p.tables e below (T29.setTop (mkF m 24 #[.val (.int c1), .val (.ref b1), .val (.int (23 : Int32)), .val (.int (6 : Int32)), .val (.ref w6)] [(.int (14 : Int32))])) _
                refine XS.iloadN X29.here hx rfl (hb hby own_d1_24) rfl ?_
                show Steps p.tables e below (T29.setTop (mkF m 25 #[.val (.int c1), .val (.ref b1), .val (.int (23 : Int32)), .val (.int (6 : Int32)), .val (.ref w6)] [(.int c1), (.int (14 : Int32))])) _
                exact k)
              by_cases hc31 : (14 : Int32) = c1
              · skip
                obtain ⟨fs, hr, hrun, hended, hW, hsame⟩ := X29.leave (v := some (.ref w6)) (fun h => by rw [Bd.returns] at h; cases h)
                refine ⟨_, _, pre30 _ ?_, hrun, hended, _, _, rfl, ?_, ⟨_, rfl⟩, hW, hsame.mono (by decide) (by decide)⟩
                · refine XS.icmpNo X29.here hx rfl (hb hby own_d1_25) rfl (teq hc31).2 ?_
                  show Steps p.tables e below (T29.setTop (mkF m 28 #[.val (.int c1), .val (.ref b1), .val (.int (23 : Int32)), .val (.int (6 : Int32)), .val (.ref w6)] [])) _
                  refine XS.aload X29.here hx rfl (hb hby own_d1_28) rfl rfl ?_
                  show Steps p.tables e below (T29.setTop (mkF m 30 #[.val (.int c1), .val (.ref b1), .val (.int (23 : Int32)), .val (.int (6 : Int32)), .val (.ref w6)] [(.ref w6)])) _
                  exact retOut X29 hx (t := (.object "com/example/vigilant_consumer/vigilantconsumer/ErrorCode")) Bd.returns rfl (Or.inr (Or.inr (Or.inr (Or.inr ⟨rfl, rfl, rfl⟩)))) (hb hby own_d1_30) hr
                · show own_Q_own_of Z c1 va kv w0 w1 w2 w3 w4 w5 w6 w7 w8 w9 w10 w11 w12 w13 w14 w15 w16 w17 w18 w19 w20 w21 w22 h0 n0 _ T29.heap _
                  rw [e29]
                  exact ⟨by rw [own_ec_neg hc7, own_ec_neg hc11, own_ec_neg hc15, own_ec_neg hc19, own_ec_neg hc23, own_ec_neg hc27, own_ec_pos hc31], N1, KP⟩
              · skip
                obtain ⟨cl32, Ar32, q32, S32, M32, H32, G32⟩ := id VB1
                have hin32 : ¬ ((7 : Int32) < 0 ∨ cl32.slots.size ≤ ((7 : Int32)).toNatClampNeg) := inb_of S32 ⟨by decide, by decide⟩
                obtain ⟨T33, X33, e33, st33⟩ := getF X29 hx hZ hown (host := "") (Or.inl (hw _ (List.mem_of_getElem? (i := 68) rfl))) Via.refl e29 F7 (g := (mkF m 21 #[.val (.int c1), .val (.ref b1), .val (.int (23 : Int32)), .val (.int (7 : Int32)), .val (.ref w7)] [(.ref w7)])) rfl rfl (hb hby own_d1_21)
                have pre34 : ∀ t, Steps p.tables e below (T33.setTop (mkF m 25 #[.val (.int c1), .val (.ref b1), .val (.int (23 : Int32)), .val (.int (7 : Int32)), .val (.ref w7)] [(.int c1), (.int (15 : Int32))])) t → Steps p.tables e below (s₁.setTop (entryFrame m #[(.int c1)] 5)) t := fun t k => pre30 t (by
                  refine XS.icmpYes X29.here hx rfl (pc0 := 25) (pc' := 31) rfl (hb hby own_d1_25) rfl (feq hc31).2 (by decide) (by decide) ?_
                  show Steps p.tables e below (T29.setTop (mkF m 31 #[.val (.int c1), .val (.ref b1), .val (.int (23 : Int32)), .val (.int (6 : Int32)), .val (.ref w6)] [])) _
                  refine XS.iinc X29.here hx rfl (hb hby own_d1_31) rfl (l' := #[.val (.int c1), .val (.ref b1), .val (.int (23 : Int32)), .val (.int (7 : Int32)), .val (.ref w6)]) rfl ?_
                  show Steps p.tables e below (T29.setTop (mkF m 34 #[.val (.int c1), .val (.ref b1), .val (.int (23 : Int32)), .val (.int (7 : Int32)), .val (.ref w6)] [])) _
                  refine XS.goto X29.here hx rfl (pc0 := 34) (pc' := 9) rfl (hb hby own_d1_34) (by decide) (by decide) ?_
                  show Steps p.tables e below (T29.setTop (mkF m 9 #[.val (.int c1), .val (.ref b1), .val (.int (23 : Int32)), .val (.int (7 : Int32)), .val (.ref w6)] [])) _
                  refine XS.iloadN X29.here hx rfl (hb hby own_d1_9) rfl ?_
                  show Steps p.tables e below (T29.setTop (mkF m 10 #[.val (.int c1), .val (.ref b1), .val (.int (23 : Int32)), .val (.int (7 : Int32)), .val (.ref w6)] [(.int (7 : Int32))])) _
                  refine XS.iloadN X29.here hx rfl (hb hby own_d1_10) rfl ?_
                  show Steps p.tables e below (T29.setTop (mkF m 11 #[.val (.int c1), .val (.ref b1), .val (.int (23 : Int32)), .val (.int (7 : Int32)), .val (.ref w6)] [(.int (23 : Int32)), (.int (7 : Int32))])) _
                  refine XS.icmpNo X29.here hx rfl (hb hby own_d1_11) rfl (tlt (by decide : (7 : Int32) < (23 : Int32))).2.1 ?_
                  show Steps p.tables e below (T29.setTop (mkF m 14 #[.val (.int c1), .val (.ref b1), .val (.int (23 : Int32)), .val (.int (7 : Int32)), .val (.ref w6)] [])) _
                  refine XS.aloadN X29.here hx rfl (hb hby own_d1_14) rfl rfl ?_
                  show Steps p.tables e below (T29.setTop (mkF m 15 #[.val (.int c1), .val (.ref b1), .val (.int (23 : Int32)), .val (.int (7 : Int32)), .val (.ref w6)] [(.ref b1)])) _
                  refine XS.iloadN X29.here hx rfl (hb hby own_d1_15) rfl ?_
                  show Steps p.tables e below (T29.setTop (mkF m 16 #[.val (.int c1), .val (.ref b1), .val (.int (23 : Int32)), .val (.int (7 : Int32)), .val (.ref w6)] [(.int (7 : Int32)), (.ref b1)])) _
                  refine X29.aaload hx (j := (7 : Int32)) (v := (.ref w7)) (by rw [e29]; exact Ar32.1) (State.isArrayOf_alike hZ.alike Ar32.2.1) rfl Ar32.2.2 hin32 (H32.at hin32 rfl) (g := (mkF m 16 #[.val (.int c1), .val (.ref b1), .val (.int (23 : Int32)), .val (.int (7 : Int32)), .val (.ref w6)] [(.int (7 : Int32)), (.ref b1)])) rfl rfl (hb hby own_d1_16) _ ?_
                  show Steps p.tables e below (T29.setTop (mkF m 17 #[.val (.int c1), .val (.ref b1), .val (.int (23 : Int32)), .val (.int (7 : Int32)), .val (.ref w6)] [(.ref w7)])) _
                  refine XS.astore X29.here hx rfl (hb hby own_d1_17) rfl rfl (l' := #[.val (.int c1), .val (.ref b1), .val (.int (23 : Int32)), .val (.int (7 : Int32)), .val (.ref w7)]) rfl ?_
                  show Steps p.tables e below (T29.setTop (mkF m 19 #[.val (.int c1), .val (.ref b1), .val (.int (23 : Int32)), .val (.int (7 : Int32)), .val (.ref w7)] [])) _
                  refine XS.aload X29.here hx rfl (hb hby own_d1_19) rfl rfl ?_
                  show Steps p.tables e below (T29.setTop (mkF m 21 #[.val (.int c1), .val (.ref b1), .val (.int (23 : Int32)), .val (.int (7 : Int32)), .val (.ref w7)] [(.ref w7)])) _
                  refine st33 _ ?_
                  show Steps p.tables e below (T33.setTop (mkF m 24 #[.val (.int c1), .val (.ref b1), .val (.int (23 : Int32)), .val (.int (7 : Int32)), .val (.ref w7)] [(.int (15 : Int32))])) _
                  refine XS.iloadN X33.here hx rfl (hb hby own_d1_24) rfl ?_
                  show Steps p.tables e below (T33.setTop (mkF m 25 #[.val (.int c1), .val (.ref b1), .val (.int (23 : Int32)), .val (.int (7 : Int32)), .val (.ref w7)] [(.int c1), (.int (15 : Int32))])) _
                  exact k)
                by_cases hc35 : (15 : Int32) = c1
                · skip
                  obtain ⟨fs, hr, hrun, hended, hW, hsame⟩ := X33.leave (v := some (.ref w7)) (fun h => by rw [Bd.returns] at h; cases h)
                  refine ⟨_, _, pre34 _ ?_, hrun, hended, _, _, rfl, ?_, ⟨_, rfl⟩, hW, hsame.mono (by decide) (by decide)⟩
                  · refine XS.icmpNo X33.here hx rfl (hb hby own_d1_25) rfl (teq hc35).2 ?_
                    show Steps p.tables e below (T33.setTop (mkF m 28 #[.val (.int c1), .val (.ref b1), .val (.int (23 : Int32)), .val (.int (7 : Int32)), .val (.ref w7)] [])) _
                    refine XS.aload X33.here hx rfl (hb hby own_d1_28) rfl rfl ?_
                    show Steps p.tables e below (T33.setTop (mkF m 30 #[.val (.int c1), .val (.ref b1), .val (.int (23 : Int32)), .val (.int (7 : Int32)), .val (.ref w7)] [(.ref w7)])) _
                    exact retOut X33 hx (t := (.object "com/example/vigilant_consumer/vigilantconsumer/ErrorCode")) Bd.returns rfl (Or.inr (Or.inr (Or.inr (Or.inr ⟨rfl, rfl, rfl⟩)))) (hb hby own_d1_30) hr
                  · show own_Q_own_of Z c1 va kv w0 w1 w2 w3 w4 w5 w6 w7 w8 w9 w10 w11 w12 w13 w14 w15 w16 w17 w18 w19 w20 w21 w22 h0 n0 _ T33.heap _
                    rw [e33]
                    exact ⟨by rw [own_ec_neg hc7, own_ec_neg hc11, own_ec_neg hc15, own_ec_neg hc19, own_ec_neg hc23, own_ec_neg hc27, own_ec_neg hc31, own_ec_pos hc35], N1, KP⟩
                · skip
                  obtain ⟨cl36, Ar36, q36, S36, M36, H36, G36⟩ := id VB1
                  have hin36 : ¬ ((8 : Int32) < 0 ∨ cl36.slots.size ≤ ((8 : Int32)).toNatClampNeg) := inb_of S36 ⟨by decide, by decide⟩
                  obtain ⟨T37, X37, e37, st37⟩ := getF X33 hx hZ hown (host := "") (Or.inl (hw _ (List.mem_of_getElem? (i := 68) rfl))) Via.refl e33 F8 (g := (mkF m 21 #[.val (.int c1), .val (.ref b1), .val (.int (23 : Int32)), .val (.int (8 : Int32)), .val (.ref w8)] [(.ref w8)])) rfl rfl (hb hby own_d1_21)
                  have pre38 : ∀ t, Steps p.tables e below (T37.setTop (mkF m 25 #[.val (.int c1), .val (.ref b1), .val (.int (23 : Int32)), .val (.int (8 : Int32)), .val (.ref w8)] [(.int c1), (.int (16 : Int32))])) t → Steps p.tables e below (s₁.setTop (entryFrame m #[(.int c1)] 5)) t := fun t k => pre34 t (by
                    refine XS.icmpYes X33.here hx rfl (pc0 := 25) (pc' := 31) rfl (hb hby own_d1_25) rfl (feq hc35).2 (by decide) (by decide) ?_
                    show Steps p.tables e below (T33.setTop (mkF m 31 #[.val (.int c1), .val (.ref b1), .val (.int (23 : Int32)), .val (.int (7 : Int32)), .val (.ref w7)] [])) _
                    refine XS.iinc X33.here hx rfl (hb hby own_d1_31) rfl (l' := #[.val (.int c1), .val (.ref b1), .val (.int (23 : Int32)), .val (.int (8 : Int32)), .val (.ref w7)]) rfl ?_
                    show Steps p.tables e below (T33.setTop (mkF m 34 #[.val (.int c1), .val (.ref b1), .val (.int (23 : Int32)), .val (.int (8 : Int32)), .val (.ref w7)] [])) _
                    refine XS.goto X33.here hx rfl (pc0 := 34) (pc' := 9) rfl (hb hby own_d1_34) (by decide) (by decide) ?_
                    show Steps p.tables e below (T33.setTop (mkF m 9 #[.val (.int c1), .val (.ref b1), .val (.int (23 : Int32)), .val (.int (8 : Int32)), .val (.ref w7)] [])) _
                    refine XS.iloadN X33.here hx rfl (hb hby own_d1_9) rfl ?_
                    show Steps p.tables e below (T33.setTop (mkF m 10 #[.val (.int c1), .val (.ref b1), .val (.int (23 : Int32)), .val (.int (8 : Int32)), .val (.ref w7)] [(.int (8 : Int32))])) _
                    refine XS.iloadN X33.here hx rfl (hb hby own_d1_10) rfl ?_
                    show Steps p.tables e below (T33.setTop (mkF m 11 #[.val (.int c1), .val (.ref b1), .val (.int (23 : Int32)), .val (.int (8 : Int32)), .val (.ref w7)] [(.int (23 : Int32)), (.int (8 : Int32))])) _
                    refine XS.icmpNo X33.here hx rfl (hb hby own_d1_11) rfl (tlt (by decide : (8 : Int32) < (23 : Int32))).2.1 ?_
                    show Steps p.tables e below (T33.setTop (mkF m 14 #[.val (.int c1), .val (.ref b1), .val (.int (23 : Int32)), .val (.int (8 : Int32)), .val (.ref w7)] [])) _
                    refine XS.aloadN X33.here hx rfl (hb hby own_d1_14) rfl rfl ?_
                    show Steps p.tables e below (T33.setTop (mkF m 15 #[.val (.int c1), .val (.ref b1), .val (.int (23 : Int32)), .val (.int (8 : Int32)), .val (.ref w7)] [(.ref b1)])) _
                    refine XS.iloadN X33.here hx rfl (hb hby own_d1_15) rfl ?_
                    show Steps p.tables e below (T33.setTop (mkF m 16 #[.val (.int c1), .val (.ref b1), .val (.int (23 : Int32)), .val (.int (8 : Int32)), .val (.ref w7)] [(.int (8 : Int32)), (.ref b1)])) _
                    refine X33.aaload hx (j := (8 : Int32)) (v := (.ref w8)) (by rw [e33]; exact Ar36.1) (State.isArrayOf_alike hZ.alike Ar36.2.1) rfl Ar36.2.2 hin36 (H36.at hin36 rfl) (g := (mkF m 16 #[.val (.int c1), .val (.ref b1), .val (.int (23 : Int32)), .val (.int (8 : Int32)), .val (.ref w7)] [(.int (8 : Int32)), (.ref b1)])) rfl rfl (hb hby own_d1_16) _ ?_
                    show Steps p.tables e below (T33.setTop (mkF m 17 #[.val (.int c1), .val (.ref b1), .val (.int (23 : Int32)), .val (.int (8 : Int32)), .val (.ref w7)] [(.ref w8)])) _
                    refine XS.astore X33.here hx rfl (hb hby own_d1_17) rfl rfl (l' := #[.val (.int c1), .val (.ref b1), .val (.int (23 : Int32)), .val (.int (8 : Int32)), .val (.ref w8)]) rfl ?_
                    show Steps p.tables e below (T33.setTop (mkF m 19 #[.val (.int c1), .val (.ref b1), .val (.int (23 : Int32)), .val (.int (8 : Int32)), .val (.ref w8)] [])) _
                    refine XS.aload X33.here hx rfl (hb hby own_d1_19) rfl rfl ?_
                    show Steps p.tables e below (T33.setTop (mkF m 21 #[.val (.int c1), .val (.ref b1), .val (.int (23 : Int32)), .val (.int (8 : Int32)), .val (.ref w8)] [(.ref w8)])) _
                    refine st37 _ ?_
                    show Steps p.tables e below (T37.setTop (mkF m 24 #[.val (.int c1), .val (.ref b1), .val (.int (23 : Int32)), .val (.int (8 : Int32)), .val (.ref w8)] [(.int (16 : Int32))])) _
                    refine XS.iloadN X37.here hx rfl (hb hby own_d1_24) rfl ?_
                    show Steps p.tables e below (T37.setTop (mkF m 25 #[.val (.int c1), .val (.ref b1), .val (.int (23 : Int32)), .val (.int (8 : Int32)), .val (.ref w8)] [(.int c1), (.int (16 : Int32))])) _
                    exact k)
                  by_cases hc39 : (16 : Int32) = c1
                  · skip
                    obtain ⟨fs, hr, hrun, hended, hW, hsame⟩ := X37.leave (v := some (.ref w8)) (fun h => by rw [Bd.returns] at h; cases h)
                    refine ⟨_, _, pre38 _ ?_, hrun, hended, _, _, rfl, ?_, ⟨_, rfl⟩, hW, hsame.mono (by decide) (by decide)⟩
                    · refine XS.icmpNo X37.here hx rfl (hb hby own_d1_25) rfl (teq hc39).2 ?_
                      show Steps p.tables e below (T37.setTop (mkF m 28 #[.val (.int c1), .val (.ref b1), .val (.int (23 : Int32)), .val (.int (8 : Int32)), .val (.ref w8)] [])) _
                      refine XS.aload X37.here hx rfl (hb hby own_d1_28) rfl rfl ?_
                      show Steps p.tables e below (T37.setTop (mkF m 30 #[.val (.int c1), .val (.ref b1), .val (.int (23 : Int32)), .val (.int (8 : Int32)), .val (.ref w8)] [(.ref w8)])) _
                      exact retOut X37 hx (t := (.object "com/example/vigilant_consumer/vigilantconsumer/ErrorCode")) Bd.returns rfl (Or.inr (Or.inr (Or.inr (Or.inr ⟨rfl, rfl, rfl⟩)))) (hb hby own_d1_30) hr
                    · show own_Q_own_of Z c1 va kv w0 w1 w2 w3 w4 w5 w6 w7 w8 w9 w10 w11 w12 w13 w14 w15 w16 w17 w18 w19 w20 w21 w22 h0 n0 _ T37.heap _
                      rw [e37]
                      exact ⟨by rw [own_ec_neg hc7, own_ec_neg hc11, own_ec_neg hc15, own_ec_neg hc19, own_ec_neg hc23, own_ec_neg hc27, own_ec_neg hc31, own_ec_neg hc35, own_ec_pos hc39], N1, KP⟩
                  · skip
                    obtain ⟨cl40, Ar40, q40, S40, M40, H40, G40⟩ := id VB1
                    have hin40 : ¬ ((9 : Int32) < 0 ∨ cl40.slots.size ≤ ((9 : Int32)).toNatClampNeg) := inb_of S40 ⟨by decide, by decide⟩
                    obtain ⟨T41, X41, e41, st41⟩ := getF X37 hx hZ hown (host := "") (Or.inl (hw _ (List.mem_of_getElem? (i := 68) rfl))) Via.refl e37 F9 (g := (mkF m 21 #[.val (.int c1), .val (.ref b1), .val (.int (23 : Int32)), .val (.int (9 : Int32)), .val (.ref w9)] [(.ref w9)])) rfl rfl (hb hby own_d1_21)
                    have pre42 : ∀ t, Steps p.tables e below (T41.setTop (mkF m 25 #[.val (.int c1), .val (.ref b1), .val (.int (23 : Int32)), .val (.int (9 : Int32)), .val (.ref w9)] [(.int c1), (.int (22 : Int32))])) t → Steps p.tables e below (s₁.setTop (entryFrame m #[(.int c1)] 5)) t := fun t k => pre38 t (by
                      refine XS.icmpYes X37.here hx rfl (pc0 := 25) (pc' := 31) rfl (hb hby own_d1_25) rfl (feq hc39).2 (by decide) (by decide) ?_
                      show Steps p.tables e below (T37.setTop (mkF m 31 #[.val (.int c1), .val (.ref b1), .val (.int (23 : Int32)), .val (.int (8 : Int32)), .val (.ref w8)] [])) _
                      refine XS.iinc X37.here hx rfl (hb hby own_d1_31) rfl (l' := #[.val (.int c1), .val (.ref b1), .val (.int (23 : Int32)), .val (.int (9 : Int32)), .val (.ref w8)]) rfl ?_
                      show Steps p.tables e below (T37.setTop (mkF m 34 #[.val (.int c1), .val (.ref b1), .val (.int (23 : Int32)), .val (.int (9 : Int32)), .val (.ref w8)] [])) _
                      refine XS.goto X37.here hx rfl (pc0 := 34) (pc' := 9) rfl (hb hby own_d1_34) (by decide) (by decide) ?_
                      show Steps p.tables e below (T37.setTop (mkF m 9 #[.val (.int c1), .val (.ref b1), .val (.int (23 : Int32)), .val (.int (9 : Int32)), .val (.ref w8)] [])) _
                      refine XS.iloadN X37.here hx rfl (hb hby own_d1_9) rfl ?_
                      show Steps p.tables e below (T37.setTop (mkF m 10 #[.val (.int c1), .val (.ref b1), .val (.int (23 : Int32)), .val (.int (9 : Int32)), .val (.ref w8)] [(.int (9 : Int32))])) _
                      refine XS.iloadN X37.here hx rfl (hb hby own_d1_10) rfl ?_
                      show Steps p.tables e below (T37.setTop (mkF m 11 #[.val (.int c1), .val (.ref b1), .val (.int (23 : Int32)), .val (.int (9 : Int32)), .val (.ref w8)] [(.int (23 : Int32)), (.int (9 : Int32))])) _
                      refine XS.icmpNo X37.here hx rfl (hb hby own_d1_11) rfl (tlt (by decide : (9 : Int32) < (23 : Int32))).2.1 ?_
                      show Steps p.tables e below (T37.setTop (mkF m 14 #[.val (.int c1), .val (.ref b1), .val (.int (23 : Int32)), .val (.int (9 : Int32)), .val (.ref w8)] [])) _
                      refine XS.aloadN X37.here hx rfl (hb hby own_d1_14) rfl rfl ?_
                      show Steps p.tables e below (T37.setTop (mkF m 15 #[.val (.int c1), .val (.ref b1), .val (.int (23 : Int32)), .val (.int (9 : Int32)), .val (.ref w8)] [(.ref b1)])) _
                      refine XS.iloadN X37.here hx rfl (hb hby own_d1_15) rfl ?_
                      show Steps p.tables e below (T37.setTop (mkF m 16 #[.val (.int c1), .val (.ref b1), .val (.int (23 : Int32)), .val (.int (9 : Int32)), .val (.ref w8)] [(.int (9 : Int32)), (.ref b1)])) _
                      refine X37.aaload hx (j := (9 : Int32)) (v := (.ref w9)) (by rw [e37]; exact Ar40.1) (State.isArrayOf_alike hZ.alike Ar40.2.1) rfl Ar40.2.2 hin40 (H40.at hin40 rfl) (g := (mkF m 16 #[.val (.int c1), .val (.ref b1), .val (.int (23 : Int32)), .val (.int (9 : Int32)), .val (.ref w8)] [(.int (9 : Int32)), (.ref b1)])) rfl rfl (hb hby own_d1_16) _ ?_
                      show Steps p.tables e below (T37.setTop (mkF m 17 #[.val (.int c1), .val (.ref b1), .val (.int (23 : Int32)), .val (.int (9 : Int32)), .val (.ref w8)] [(.ref w9)])) _
                      refine XS.astore X37.here hx rfl (hb hby own_d1_17) rfl rfl (l' := #[.val (.int c1), .val (.ref b1), .val (.int (23 : Int32)), .val (.int (9 : Int32)), .val (.ref w9)]) rfl ?_
                      show Steps p.tables e below (T37.setTop (mkF m 19 #[.val (.int c1), .val (.ref b1), .val (.int (23 : Int32)), .val (.int (9 : Int32)), .val (.ref w9)] [])) _
                      refine XS.aload X37.here hx rfl (hb hby own_d1_19) rfl rfl ?_
                      show Steps p.tables e below (T37.setTop (mkF m 21 #[.val (.int c1), .val (.ref b1), .val (.int (23 : Int32)), .val (.int (9 : Int32)), .val (.ref w9)] [(.ref w9)])) _
                      refine st41 _ ?_
                      show Steps p.tables e below (T41.setTop (mkF m 24 #[.val (.int c1), .val (.ref b1), .val (.int (23 : Int32)), .val (.int (9 : Int32)), .val (.ref w9)] [(.int (22 : Int32))])) _
                      refine XS.iloadN X41.here hx rfl (hb hby own_d1_24) rfl ?_
                      show Steps p.tables e below (T41.setTop (mkF m 25 #[.val (.int c1), .val (.ref b1), .val (.int (23 : Int32)), .val (.int (9 : Int32)), .val (.ref w9)] [(.int c1), (.int (22 : Int32))])) _
                      exact k)
                    by_cases hc43 : (22 : Int32) = c1
                    · skip
                      obtain ⟨fs, hr, hrun, hended, hW, hsame⟩ := X41.leave (v := some (.ref w9)) (fun h => by rw [Bd.returns] at h; cases h)
                      refine ⟨_, _, pre42 _ ?_, hrun, hended, _, _, rfl, ?_, ⟨_, rfl⟩, hW, hsame.mono (by decide) (by decide)⟩
                      · refine XS.icmpNo X41.here hx rfl (hb hby own_d1_25) rfl (teq hc43).2 ?_
                        show Steps p.tables e below (T41.setTop (mkF m 28 #[.val (.int c1), .val (.ref b1), .val (.int (23 : Int32)), .val (.int (9 : Int32)), .val (.ref w9)] [])) _
                        refine XS.aload X41.here hx rfl (hb hby own_d1_28) rfl rfl ?_
                        show Steps p.tables e below (T41.setTop (mkF m 30 #[.val (.int c1), .val (.ref b1), .val (.int (23 : Int32)), .val (.int (9 : Int32)), .val (.ref w9)] [(.ref w9)])) _
                        exact retOut X41 hx (t := (.object "com/example/vigilant_consumer/vigilantconsumer/ErrorCode")) Bd.returns rfl (Or.inr (Or.inr (Or.inr (Or.inr ⟨rfl, rfl, rfl⟩)))) (hb hby own_d1_30) hr
                      · show own_Q_own_of Z c1 va kv w0 w1 w2 w3 w4 w5 w6 w7 w8 w9 w10 w11 w12 w13 w14 w15 w16 w17 w18 w19 w20 w21 w22 h0 n0 _ T41.heap _
                        rw [e41]
                        exact ⟨by rw [own_ec_neg hc7, own_ec_neg hc11, own_ec_neg hc15, own_ec_neg hc19, own_ec_neg hc23, own_ec_neg hc27, own_ec_neg hc31, own_ec_neg hc35, own_ec_neg hc39, own_ec_pos hc43], N1, KP⟩
                    · skip
                      obtain ⟨cl44, Ar44, q44, S44, M44, H44, G44⟩ := id VB1
                      have hin44 : ¬ ((10 : Int32) < 0 ∨ cl44.slots.size ≤ ((10 : Int32)).toNatClampNeg) := inb_of S44 ⟨by decide, by decide⟩
                      obtain ⟨T45, X45, e45, st45⟩ := getF X41 hx hZ hown (host := "") (Or.inl (hw _ (List.mem_of_getElem? (i := 68) rfl))) Via.refl e41 F10 (g := (mkF m 21 #[.val (.int c1), .val (.ref b1), .val (.int (23 : Int32)), .val (.int (10 : Int32)), .val (.ref w10)] [(.ref w10)])) rfl rfl (hb hby own_d1_21)
                      have pre46 : ∀ t, Steps p.tables e below (T45.setTop (mkF m 25 #[.val (.int c1), .val (.ref b1), .val (.int (23 : Int32)), .val (.int (10 : Int32)), .val (.ref w10)] [(.int c1), (.int (23 : Int32))])) t → Steps p.tables e below (s₁.setTop (entryFrame m #[(.int c1)] 5)) t := fun t k => pre42 t (by
                        refine XS.icmpYes X41.here hx rfl (pc0 := 25) (pc' := 31) rfl (hb hby own_d1_25) rfl (feq hc43).2 (by decide) (by decide) ?_
                        show Steps p.tables e below (T41.setTop (mkF m 31 #[.val (.int c1), .val (.ref b1), .val (.int (23 : Int32)), .val (.int (9 : Int32)), .val (.ref w9)] [])) _
                        refine XS.iinc X41.here hx rfl (hb hby own_d1_31) rfl (l' := #[.val (.int c1), .val (.ref b1), .val (.int (23 : Int32)), .val (.int (10 : Int32)), .val (.ref w9)]) rfl ?_
                        show Steps p.tables e below (T41.setTop (mkF m 34 #[.val (.int c1), .val (.ref b1), .val (.int (23 : Int32)), .val (.int (10 : Int32)), .val (.ref w9)] [])) _
                        refine XS.goto X41.here hx rfl (pc0 := 34) (pc' := 9) rfl (hb hby own_d1_34) (by decide) (by decide) ?_
                        show Steps p.tables e below (T41.setTop (mkF m 9 #[.val (.int c1), .val (.ref b1), .val (.int (23 : Int32)), .val (.int (10 : Int32)), .val (.ref w9)] [])) _
                        refine XS.iloadN X41.here hx rfl (hb hby own_d1_9) rfl ?_
                        show Steps p.tables e below (T41.setTop (mkF m 10 #[.val (.int c1), .val (.ref b1), .val (.int (23 : Int32)), .val (.int (10 : Int32)), .val (.ref w9)] [(.int (10 : Int32))])) _
                        refine XS.iloadN X41.here hx rfl (hb hby own_d1_10) rfl ?_
                        show Steps p.tables e below (T41.setTop (mkF m 11 #[.val (.int c1), .val (.ref b1), .val (.int (23 : Int32)), .val (.int (10 : Int32)), .val (.ref w9)] [(.int (23 : Int32)), (.int (10 : Int32))])) _
                        refine XS.icmpNo X41.here hx rfl (hb hby own_d1_11) rfl (tlt (by decide : (10 : Int32) < (23 : Int32))).2.1 ?_
                        show Steps p.tables e below (T41.setTop (mkF m 14 #[.val (.int c1), .val (.ref b1), .val (.int (23 : Int32)), .val (.int (10 : Int32)), .val (.ref w9)] [])) _
                        refine XS.aloadN X41.here hx rfl (hb hby own_d1_14) rfl rfl ?_
                        show Steps p.tables e below (T41.setTop (mkF m 15 #[.val (.int c1), .val (.ref b1), .val (.int (23 : Int32)), .val (.int (10 : Int32)), .val (.ref w9)] [(.ref b1)])) _
                        refine XS.iloadN X41.here hx rfl (hb hby own_d1_15) rfl ?_
                        show Steps p.tables e below (T41.setTop (mkF m 16 #[.val (.int c1), .val (.ref b1), .val (.int (23 : Int32)), .val (.int (10 : Int32)), .val (.ref w9)] [(.int (10 : Int32)), (.ref b1)])) _
                        refine X41.aaload hx (j := (10 : Int32)) (v := (.ref w10)) (by rw [e41]; exact Ar44.1) (State.isArrayOf_alike hZ.alike Ar44.2.1) rfl Ar44.2.2 hin44 (H44.at hin44 rfl) (g := (mkF m 16 #[.val (.int c1), .val (.ref b1), .val (.int (23 : Int32)), .val (.int (10 : Int32)), .val (.ref w9)] [(.int (10 : Int32)), (.ref b1)])) rfl rfl (hb hby own_d1_16) _ ?_
                        show Steps p.tables e below (T41.setTop (mkF m 17 #[.val (.int c1), .val (.ref b1), .val (.int (23 : Int32)), .val (.int (10 : Int32)), .val (.ref w9)] [(.ref w10)])) _
                        refine XS.astore X41.here hx rfl (hb hby own_d1_17) rfl rfl (l' := #[.val (.int c1), .val (.ref b1), .val (.int (23 : Int32)), .val (.int (10 : Int32)), .val (.ref w10)]) rfl ?_
                        show Steps p.tables e below (T41.setTop (mkF m 19 #[.val (.int c1), .val (.ref b1), .val (.int (23 : Int32)), .val (.int (10 : Int32)), .val (.ref w10)] [])) _
                        refine XS.aload X41.here hx rfl (hb hby own_d1_19) rfl rfl ?_
                        show Steps p.tables e below (T41.setTop (mkF m 21 #[.val (.int c1), .val (.ref b1), .val (.int (23 : Int32)), .val (.int (10 : Int32)), .val (.ref w10)] [(.ref w10)])) _
                        refine st45 _ ?_
                        show Steps p.tables e below (T45.setTop (mkF m 24 #[.val (.int c1), .val (.ref b1), .val (.int (23 : Int32)), .val (.int (10 : Int32)), .val (.ref w10)] [(.int (23 : Int32))])) _
                        refine XS.iloadN X45.here hx rfl (hb hby own_d1_24) rfl ?_
                        show Steps p.tables e below (T45.setTop (mkF m 25 #[.val (.int c1), .val (.ref b1), .val (.int (23 : Int32)), .val (.int (10 : Int32)), .val (.ref w10)] [(.int c1), (.int (23 : Int32))])) _
                        exact k)
                      by_cases hc47 : (23 : Int32) = c1
                      · skip
                        obtain ⟨fs, hr, hrun, hended, hW, hsame⟩ := X45.leave (v := some (.ref w10)) (fun h => by rw [Bd.returns] at h; cases h)
                        refine ⟨_, _, pre46 _ ?_, hrun, hended, _, _, rfl, ?_, ⟨_, rfl⟩, hW, hsame.mono (by decide) (by decide)⟩
                        · refine XS.icmpNo X45.here hx rfl (hb hby own_d1_25) rfl (teq hc47).2 ?_
                          show Steps p.tables e below (T45.setTop (mkF m 28 #[.val (.int c1), .val (.ref b1), .val (.int (23 : Int32)), .val (.int (10 : Int32)), .val (.ref w10)] [])) _
                          refine XS.aload X45.here hx rfl (hb hby own_d1_28) rfl rfl ?_
                          show Steps p.tables e below (T45.setTop (mkF m 30 #[.val (.int c1), .val (.ref b1), .val (.int (23 : Int32)), .val (.int (10 : Int32)), .val (.ref w10)] [(.ref w10)])) _
                          exact retOut X45 hx (t := (.object "com/example/vigilant_consumer/vigilantconsumer/ErrorCode")) Bd.returns rfl (Or.inr (Or.inr (Or.inr (Or.inr ⟨rfl, rfl, rfl⟩)))) (hb hby own_d1_30) hr
                        · show own_Q_own_of Z c1 va kv w0 w1 w2 w3 w4 w5 w6 w7 w8 w9 w10 w11 w12 w13 w14 w15 w16 w17 w18 w19 w20 w21 w22 h0 n0 _ T45.heap _
                          rw [e45]
                          exact ⟨by rw [own_ec_neg hc7, own_ec_neg hc11, own_ec_neg hc15, own_ec_neg hc19, own_ec_neg hc23, own_ec_neg hc27, own_ec_neg hc31, own_ec_neg hc35, own_ec_neg hc39, own_ec_neg hc43, own_ec_pos hc47], N1, KP⟩
                      · skip
                        obtain ⟨cl48, Ar48, q48, S48, M48, H48, G48⟩ := id VB1
                        have hin48 : ¬ ((11 : Int32) < 0 ∨ cl48.slots.size ≤ ((11 : Int32)).toNatClampNeg) := inb_of S48 ⟨by decide, by decide⟩
                        obtain ⟨T49, X49, e49, st49⟩ := getF X45 hx hZ hown (host := "") (Or.inl (hw _ (List.mem_of_getElem? (i := 68) rfl))) Via.refl e45 F11 (g := (mkF m 21 #[.val (.int c1), .val (.ref b1), .val (.int (23 : Int32)), .val (.int (11 : Int32)), .val (.ref w11)] [(.ref w11)])) rfl rfl (hb hby own_d1_21)
                        have pre50 : ∀ t, Steps p.tables e below (T49.setTop (mkF m 25 #[.val (.int c1), .val (.ref b1), .val (.int (23 : Int32)), .val (.int (11 : Int32)), .val (.ref w11)] [(.int c1), (.int (25 : Int32))])) t → Steps p.tables e below (s₁.setTop (entryFrame m #[(.int c1)] 5)) t := fun t k => pre46 t (by
                          refine XS.icmpYes X45.here hx rfl (pc0 := 25) (pc' := 31) rfl (hb hby own_d1_25) rfl (feq hc47).2 (by decide) (by decide) ?_
                          show Steps p.tables e below (T45.setTop (mkF m 31 #[.val (.int c1), .val (.ref b1), .val (.int (23 : Int32)), .val (.int (10 : Int32)), .val (.ref w10)] [])) _
                          refine XS.iinc X45.here hx rfl (hb hby own_d1_31) rfl (l' := #[.val (.int c1), .val (.ref b1), .val (.int (23 : Int32)), .val (.int (11 : Int32)), .val (.ref w10)]) rfl ?_
                          show Steps p.tables e below (T45.setTop (mkF m 34 #[.val (.int c1), .val (.ref b1), .val (.int (23 : Int32)), .val (.int (11 : Int32)), .val (.ref w10)] [])) _
                          refine XS.goto X45.here hx rfl (pc0 := 34) (pc' := 9) rfl (hb hby own_d1_34) (by decide) (by decide) ?_
                          show Steps p.tables e below (T45.setTop (mkF m 9 #[.val (.int c1), .val (.ref b1), .val (.int (23 : Int32)), .val (.int (11 : Int32)), .val (.ref w10)] [])) _
                          refine XS.iloadN X45.here hx rfl (hb hby own_d1_9) rfl ?_
                          show Steps p.tables e below (T45.setTop (mkF m 10 #[.val (.int c1), .val (.ref b1), .val (.int (23 : Int32)), .val (.int (11 : Int32)), .val (.ref w10)] [(.int (11 : Int32))])) _
                          refine XS.iloadN X45.here hx rfl (hb hby own_d1_10) rfl ?_
                          show Steps p.tables e below (T45.setTop (mkF m 11 #[.val (.int c1), .val (.ref b1), .val (.int (23 : Int32)), .val (.int (11 : Int32)), .val (.ref w10)] [(.int (23 : Int32)), (.int (11 : Int32))])) _
                          refine XS.icmpNo X45.here hx rfl (hb hby own_d1_11) rfl (tlt (by decide : (11 : Int32) < (23 : Int32))).2.1 ?_
                          show Steps p.tables e below (T45.setTop (mkF m 14 #[.val (.int c1), .val (.ref b1), .val (.int (23 : Int32)), .val (.int (11 : Int32)), .val (.ref w10)] [])) _
                          refine XS.aloadN X45.here hx rfl (hb hby own_d1_14) rfl rfl ?_
                          show Steps p.tables e below (T45.setTop (mkF m 15 #[.val (.int c1), .val (.ref b1), .val (.int (23 : Int32)), .val (.int (11 : Int32)), .val (.ref w10)] [(.ref b1)])) _
                          refine XS.iloadN X45.here hx rfl (hb hby own_d1_15) rfl ?_
                          show Steps p.tables e below (T45.setTop (mkF m 16 #[.val (.int c1), .val (.ref b1), .val (.int (23 : Int32)), .val (.int (11 : Int32)), .val (.ref w10)] [(.int (11 : Int32)), (.ref b1)])) _
                          refine X45.aaload hx (j := (11 : Int32)) (v := (.ref w11)) (by rw [e45]; exact Ar48.1) (State.isArrayOf_alike hZ.alike Ar48.2.1) rfl Ar48.2.2 hin48 (H48.at hin48 rfl) (g := (mkF m 16 #[.val (.int c1), .val (.ref b1), .val (.int (23 : Int32)), .val (.int (11 : Int32)), .val (.ref w10)] [(.int (11 : Int32)), (.ref b1)])) rfl rfl (hb hby own_d1_16) _ ?_
                          show Steps p.tables e below (T45.setTop (mkF m 17 #[.val (.int c1), .val (.ref b1), .val (.int (23 : Int32)), .val (.int (11 : Int32)), .val (.ref w10)] [(.ref w11)])) _
                          refine XS.astore X45.here hx rfl (hb hby own_d1_17) rfl rfl (l' := #[.val (.int c1), .val (.ref b1), .val (.int (23 : Int32)), .val (.int (11 : Int32)), .val (.ref w11)]) rfl ?_
                          show Steps p.tables e below (T45.setTop (mkF m 19 #[.val (.int c1), .val (.ref b1), .val (.int (23 : Int32)), .val (.int (11 : Int32)), .val (.ref w11)] [])) _
                          refine XS.aload X45.here hx rfl (hb hby own_d1_19) rfl rfl ?_
                          show Steps p.tables e below (T45.setTop (mkF m 21 #[.val (.int c1), .val (.ref b1), .val (.int (23 : Int32)), .val (.int (11 : Int32)), .val (.ref w11)] [(.ref w11)])) _
                          refine st49 _ ?_
                          show Steps p.tables e below (T49.setTop (mkF m 24 #[.val (.int c1), .val (.ref b1), .val (.int (23 : Int32)), .val (.int (11 : Int32)), .val (.ref w11)] [(.int (25 : Int32))])) _
                          refine XS.iloadN X49.here hx rfl (hb hby own_d1_24) rfl ?_
                          show Steps p.tables e below (T49.setTop (mkF m 25 #[.val (.int c1), .val (.ref b1), .val (.int (23 : Int32)), .val (.int (11 : Int32)), .val (.ref w11)] [(.int c1), (.int (25 : Int32))])) _
                          exact k)
                        by_cases hc51 : (25 : Int32) = c1
                        · skip
                          obtain ⟨fs, hr, hrun, hended, hW, hsame⟩ := X49.leave (v := some (.ref w11)) (fun h => by rw [Bd.returns] at h; cases h)
                          refine ⟨_, _, pre50 _ ?_, hrun, hended, _, _, rfl, ?_, ⟨_, rfl⟩, hW, hsame.mono (by decide) (by decide)⟩
                          · refine XS.icmpNo X49.here hx rfl (hb hby own_d1_25) rfl (teq hc51).2 ?_
                            show Steps p.tables e below (T49.setTop (mkF m 28 #[.val (.int c1), .val (.ref b1), .val (.int (23 : Int32)), .val (.int (11 : Int32)), .val (.ref w11)] [])) _
                            refine XS.aload X49.here hx rfl (hb hby own_d1_28) rfl rfl ?_
                            show Steps p.tables e below (T49.setTop (mkF m 30 #[.val (.int c1), .val (.ref b1), .val (.int (23 : Int32)), .val (.int (11 : Int32)), .val (.ref w11)] [(.ref w11)])) _
                            exact retOut X49 hx (t := (.object "com/example/vigilant_consumer/vigilantconsumer/ErrorCode")) Bd.returns rfl (Or.inr (Or.inr (Or.inr (Or.inr ⟨rfl, rfl, rfl⟩)))) (hb hby own_d1_30) hr
                          · show own_Q_own_of Z c1 va kv w0 w1 w2 w3 w4 w5 w6 w7 w8 w9 w10 w11 w12 w13 w14 w15 w16 w17 w18 w19 w20 w21 w22 h0 n0 _ T49.heap _
                            rw [e49]
                            exact ⟨by rw [own_ec_neg hc7, own_ec_neg hc11, own_ec_neg hc15, own_ec_neg hc19, own_ec_neg hc23, own_ec_neg hc27, own_ec_neg hc31, own_ec_neg hc35, own_ec_neg hc39, own_ec_neg hc43, own_ec_neg hc47, own_ec_pos hc51], N1, KP⟩
                        · skip
                          obtain ⟨cl52, Ar52, q52, S52, M52, H52, G52⟩ := id VB1
                          have hin52 : ¬ ((12 : Int32) < 0 ∨ cl52.slots.size ≤ ((12 : Int32)).toNatClampNeg) := inb_of S52 ⟨by decide, by decide⟩
                          obtain ⟨T53, X53, e53, st53⟩ := getF X49 hx hZ hown (host := "") (Or.inl (hw _ (List.mem_of_getElem? (i := 68) rfl))) Via.refl e49 F12 (g := (mkF m 21 #[.val (.int c1), .val (.ref b1), .val (.int (23 : Int32)), .val (.int (12 : Int32)), .val (.ref w12)] [(.ref w12)])) rfl rfl (hb hby own_d1_21)
                          have pre54 : ∀ t, Steps p.tables e below (T53.setTop (mkF m 25 #[.val (.int c1), .val (.ref b1), .val (.int (23 : Int32)), .val (.int (12 : Int32)), .val (.ref w12)] [(.int c1), (.int (26 : Int32))])) t → Steps p.tables e below (s₁.setTop (entryFrame m #[(.int c1)] 5)) t := fun t k => pre50 t (by
                            refine XS.icmpYes X49.here hx rfl (pc0 := 25) (pc' := 31) rfl (hb hby own_d1_25) rfl (feq hc51).2 (by decide) (by decide) ?_
                            show Steps p.tables e below (T49.setTop (mkF m 31 #[.val (.int c1), .val (.ref b1), .val (.int (23 : Int32)), .val (.int (11 : Int32)), .val (.ref w11)] [])) _
                            refine XS.iinc X49.here hx rfl (hb hby own_d1_31) rfl (l' := #[.val (.int c1), .val (.ref b1), .val (.int (23 : Int32)), .val (.int (12 : Int32)), .val (.ref w11)]) rfl ?_
                            show Steps p.tables e below (T49.setTop (mkF m 34 #[.val (.int c1), .val (.ref b1), .val (.int (23 : Int32)), .val (.int (12 : Int32)), .val (.ref w11)] [])) _
                            refine XS.goto X49.here hx rfl (pc0 := 34) (pc' := 9) rfl (hb hby own_d1_34) (by decide) (by decide) ?_
                            show Steps p.tables e below (T49.setTop (mkF m 9 #[.val (.int c1), .val (.ref b1), .val (.int (23 : Int32)), .val (.int (12 : Int32)), .val (.ref w11)] [])) _
                            refine XS.iloadN X49.here hx rfl (hb hby own_d1_9) rfl ?_
                            show Steps p.tables e below (T49.setTop (mkF m 10 #[.val (.int c1), .val (.ref b1), .val (.int (23 : Int32)), .val (.int (12 : Int32)), .val (.ref w11)] [(.int (12 : Int32))])) _
                            refine XS.iloadN X49.here hx rfl (hb hby own_d1_10) rfl ?_
                            show Steps p.tables e below (T49.setTop (mkF m 11 #[.val (.int c1), .val (.ref b1), .val (.int (23 : Int32)), .val (.int (12 : Int32)), .val (.ref w11)] [(.int (23 : Int32)), (.int (12 : Int32))])) _
                            refine XS.icmpNo X49.here hx rfl (hb hby own_d1_11) rfl (tlt (by decide : (12 : Int32) < (23 : Int32))).2.1 ?_
                            show Steps p.tables e below (T49.setTop (mkF m 14 #[.val (.int c1), .val (.ref b1), .val (.int (23 : Int32)), .val (.int (12 : Int32)), .val (.ref w11)] [])) _
                            refine XS.aloadN X49.here hx rfl (hb hby own_d1_14) rfl rfl ?_
                            show Steps p.tables e below (T49.setTop (mkF m 15 #[.val (.int c1), .val (.ref b1), .val (.int (23 : Int32)), .val (.int (12 : Int32)), .val (.ref w11)] [(.ref b1)])) _
                            refine XS.iloadN X49.here hx rfl (hb hby own_d1_15) rfl ?_
                            show Steps p.tables e below (T49.setTop (mkF m 16 #[.val (.int c1), .val (.ref b1), .val (.int (23 : Int32)), .val (.int (12 : Int32)), .val (.ref w11)] [(.int (12 : Int32)), (.ref b1)])) _
                            refine X49.aaload hx (j := (12 : Int32)) (v := (.ref w12)) (by rw [e49]; exact Ar52.1) (State.isArrayOf_alike hZ.alike Ar52.2.1) rfl Ar52.2.2 hin52 (H52.at hin52 rfl) (g := (mkF m 16 #[.val (.int c1), .val (.ref b1), .val (.int (23 : Int32)), .val (.int (12 : Int32)), .val (.ref w11)] [(.int (12 : Int32)), (.ref b1)])) rfl rfl (hb hby own_d1_16) _ ?_
                            show Steps p.tables e below (T49.setTop (mkF m 17 #[.val (.int c1), .val (.ref b1), .val (.int (23 : Int32)), .val (.int (12 : Int32)), .val (.ref w11)] [(.ref w12)])) _
                            refine XS.astore X49.here hx rfl (hb hby own_d1_17) rfl rfl (l' := #[.val (.int c1), .val (.ref b1), .val (.int (23 : Int32)), .val (.int (12 : Int32)), .val (.ref w12)]) rfl ?_
                            show Steps p.tables e below (T49.setTop (mkF m 19 #[.val (.int c1), .val (.ref b1), .val (.int (23 : Int32)), .val (.int (12 : Int32)), .val (.ref w12)] [])) _
                            refine XS.aload X49.here hx rfl (hb hby own_d1_19) rfl rfl ?_
                            show Steps p.tables e below (T49.setTop (mkF m 21 #[.val (.int c1), .val (.ref b1), .val (.int (23 : Int32)), .val (.int (12 : Int32)), .val (.ref w12)] [(.ref w12)])) _
                            refine st53 _ ?_
                            show Steps p.tables e below (T53.setTop (mkF m 24 #[.val (.int c1), .val (.ref b1), .val (.int (23 : Int32)), .val (.int (12 : Int32)), .val (.ref w12)] [(.int (26 : Int32))])) _
                            refine XS.iloadN X53.here hx rfl (hb hby own_d1_24) rfl ?_
                            show Steps p.tables e below (T53.setTop (mkF m 25 #[.val (.int c1), .val (.ref b1), .val (.int (23 : Int32)), .val (.int (12 : Int32)), .val (.ref w12)] [(.int c1), (.int (26 : Int32))])) _
                            exact k)
                          by_cases hc55 : (26 : Int32) = c1
                          · skip
                            obtain ⟨fs, hr, hrun, hended, hW, hsame⟩ := X53.leave (v := some (.ref w12)) (fun h => by rw [Bd.returns] at h; cases h)
                            refine ⟨_, _, pre54 _ ?_, hrun, hended, _, _, rfl, ?_, ⟨_, rfl⟩, hW, hsame.mono (by decide) (by decide)⟩
                            · refine XS.icmpNo X53.here hx rfl (hb hby own_d1_25) rfl (teq hc55).2 ?_
                              show Steps p.tables e below (T53.setTop (mkF m 28 #[.val (.int c1), .val (.ref b1), .val (.int (23 : Int32)), .val (.int (12 : Int32)), .val (.ref w12)] [])) _
                              refine XS.aload X53.here hx rfl (hb hby own_d1_28) rfl rfl ?_
                              show Steps p.tables e below (T53.setTop (mkF m 30 #[.val (.int c1), .val (.ref b1), .val (.int (23 : Int32)), .val (.int (12 : Int32)), .val (.ref w12)] [(.ref w12)])) _
                              exact retOut X53 hx (t := (.object "com/example/vigilant_consumer/vigilantconsumer/ErrorCode")) Bd.returns rfl (Or.inr (Or.inr (Or.inr (Or.inr ⟨rfl, rfl, rfl⟩)))) (hb hby own_d1_30) hr
                            · show own_Q_own_of Z c1 va kv w0 w1 w2 w3 w4 w5 w6 w7 w8 w9 w10 w11 w12 w13 w14 w15 w16 w17 w18 w19 w20 w21 w22 h0 n0 _ T53.heap _
                              rw [e53]
                              exact ⟨by rw [own_ec_neg hc7, own_ec_neg hc11, own_ec_neg hc15, own_ec_neg hc19, own_ec_neg hc23, own_ec_neg hc27, own_ec_neg hc31, own_ec_neg hc35, own_ec_neg hc39, own_ec_neg hc43, own_ec_neg hc47, own_ec_neg hc51, own_ec_pos hc55], N1, KP⟩
                          · skip
                            obtain ⟨cl56, Ar56, q56, S56, M56, H56, G56⟩ := id VB1
                            have hin56 : ¬ ((13 : Int32) < 0 ∨ cl56.slots.size ≤ ((13 : Int32)).toNatClampNeg) := inb_of S56 ⟨by decide, by decide⟩
                            obtain ⟨T57, X57, e57, st57⟩ := getF X53 hx hZ hown (host := "") (Or.inl (hw _ (List.mem_of_getElem? (i := 68) rfl))) Via.refl e53 F13 (g := (mkF m 21 #[.val (.int c1), .val (.ref b1), .val (.int (23 : Int32)), .val (.int (13 : Int32)), .val (.ref w13)] [(.ref w13)])) rfl rfl (hb hby own_d1_21)
                            have pre58 : ∀ t, Steps p.tables e below (T57.setTop (mkF m 25 #[.val (.int c1), .val (.ref b1), .val (.int (23 : Int32)), .val (.int (13 : Int32)), .val (.ref w13)] [(.int c1), (.int (27 : Int32))])) t → Steps p.tables e below (s₁.setTop (entryFrame m #[(.int c1)] 5)) t := fun t k => pre54 t (by
                              refine XS.icmpYes X53.here hx rfl (pc0 := 25) (pc' := 31) rfl (hb hby own_d1_25) rfl (feq hc55).2 (by decide) (by decide) ?_
                              show Steps p.tables e below (T53.setTop (mkF m 31 #[.val (.int c1), .val (.ref b1), .val (.int (23 : Int32)), .val (.int (12 : Int32)), .val (.ref w12)] [])) _
                              refine XS.iinc X53.here hx rfl (hb hby own_d1_31) rfl (l' := #[.val (.int c1), .val (.ref b1), .val (.int (23 : Int32)), .val (.int (13 : Int32)), .val (.ref w12)]) rfl ?_
                              show Steps p.tables e below (T53.setTop (mkF m 34 #[.val (.int c1), .val (.ref b1), .val (.int (23 : Int32)), .val (.int (13 : Int32)), .val (.ref w12)] [])) _
                              refine XS.goto X53.here hx rfl (pc0 := 34) (pc' := 9) rfl (hb hby own_d1_34) (by decide) (by decide) ?_
                              show Steps p.tables e below (T53.setTop (mkF m 9 #[.val (.int c1), .val (.ref b1), .val (.int (23 : Int32)), .val (.int (13 : Int32)), .val (.ref w12)] [])) _
                              refine XS.iloadN X53.here hx rfl (hb hby own_d1_9) rfl ?_
                              show Steps p.tables e below (T53.setTop (mkF m 10 #[.val (.int c1), .val (.ref b1), .val (.int (23 : Int32)), .val (.int (13 : Int32)), .val (.ref w12)] [(.int (13 : Int32))])) _
                              refine XS.iloadN X53.here hx rfl (hb hby own_d1_10) rfl ?_
                              show Steps p.tables e below (T53.setTop (mkF m 11 #[.val (.int c1), .val (.ref b1), .val (.int (23 : Int32)), .val (.int (13 : Int32)), .val (.ref w12)] [(.int (23 : Int32)), (.int (13 : Int32))])) _
                              refine XS.icmpNo X53.here hx rfl (hb hby own_d1_11) rfl (tlt (by decide : (13 : Int32) < (23 : Int32))).2.1 ?_
                              show Steps p.tables e below (T53.setTop (mkF m 14 #[.val (.int c1), .val (.ref b1), .val (.int (23 : Int32)), .val (.int (13 : Int32)), .val (.ref w12)] [])) _
                              refine XS.aloadN X53.here hx rfl (hb hby own_d1_14) rfl rfl ?_
                              show Steps p.tables e below (T53.setTop (mkF m 15 #[.val (.int c1), .val (.ref b1), .val (.int (23 : Int32)), .val (.int (13 : Int32)), .val (.ref w12)] [(.ref b1)])) _
                              refine XS.iloadN X53.here hx rfl (hb hby own_d1_15) rfl ?_
                              show Steps p.tables e below (T53.setTop (mkF m 16 #[.val (.int c1), .val (.ref b1), .val (.int (23 : Int32)), .val (.int (13 : Int32)), .val (.ref w12)] [(.int (13 : Int32)), (.ref b1)])) _
                              refine X53.aaload hx (j := (13 : Int32)) (v := (.ref w13)) (by rw [e53]; exact Ar56.1) (State.isArrayOf_alike hZ.alike Ar56.2.1) rfl Ar56.2.2 hin56 (H56.at hin56 rfl) (g := (mkF m 16 #[.val (.int c1), .val (.ref b1), .val (.int (23 : Int32)), .val (.int (13 : Int32)), .val (.ref w12)] [(.int (13 : Int32)), (.ref b1)])) rfl rfl (hb hby own_d1_16) _ ?_
                              show Steps p.tables e below (T53.setTop (mkF m 17 #[.val (.int c1), .val (.ref b1), .val (.int (23 : Int32)), .val (.int (13 : Int32)), .val (.ref w12)] [(.ref w13)])) _
                              refine XS.astore X53.here hx rfl (hb hby own_d1_17) rfl rfl (l' := #[.val (.int c1), .val (.ref b1), .val (.int (23 : Int32)), .val (.int (13 : Int32)), .val (.ref w13)]) rfl ?_
                              show Steps p.tables e below (T53.setTop (mkF m 19 #[.val (.int c1), .val (.ref b1), .val (.int (23 : Int32)), .val (.int (13 : Int32)), .val (.ref w13)] [])) _
                              refine XS.aload X53.here hx rfl (hb hby own_d1_19) rfl rfl ?_
                              show Steps p.tables e below (T53.setTop (mkF m 21 #[.val (.int c1), .val (.ref b1), .val (.int (23 : Int32)), .val (.int (13 : Int32)), .val (.ref w13)] [(.ref w13)])) _
                              refine st57 _ ?_
                              show Steps p.tables e below (T57.setTop (mkF m 24 #[.val (.int c1), .val (.ref b1), .val (.int (23 : Int32)), .val (.int (13 : Int32)), .val (.ref w13)] [(.int (27 : Int32))])) _
                              refine XS.iloadN X57.here hx rfl (hb hby own_d1_24) rfl ?_
                              show Steps p.tables e below (T57.setTop (mkF m 25 #[.val (.int c1), .val (.ref b1), .val (.int (23 : Int32)), .val (.int (13 : Int32)), .val (.ref w13)] [(.int c1), (.int (27 : Int32))])) _
                              exact k)
                            by_cases hc59 : (27 : Int32) = c1
                            · skip
                              obtain ⟨fs, hr, hrun, hended, hW, hsame⟩ := X57.leave (v := some (.ref w13)) (fun h => by rw [Bd.returns] at h; cases h)
                              refine ⟨_, _, pre58 _ ?_, hrun, hended, _, _, rfl, ?_, ⟨_, rfl⟩, hW, hsame.mono (by decide) (by decide)⟩
                              · refine XS.icmpNo X57.here hx rfl (hb hby own_d1_25) rfl (teq hc59).2 ?_
                                show Steps p.tables e below (T57.setTop (mkF m 28 #[.val (.int c1), .val (.ref b1), .val (.int (23 : Int32)), .val (.int (13 : Int32)), .val (.ref w13)] [])) _
                                refine XS.aload X57.here hx rfl (hb hby own_d1_28) rfl rfl ?_
                                show Steps p.tables e below (T57.setTop (mkF m 30 #[.val (.int c1), .val (.ref b1), .val (.int (23 : Int32)), .val (.int (13 : Int32)), .val (.ref w13)] [(.ref w13)])) _
                                exact retOut X57 hx (t := (.object "com/example/vigilant_consumer/vigilantconsumer/ErrorCode")) Bd.returns rfl (Or.inr (Or.inr (Or.inr (Or.inr ⟨rfl, rfl, rfl⟩)))) (hb hby own_d1_30) hr
                              · show own_Q_own_of Z c1 va kv w0 w1 w2 w3 w4 w5 w6 w7 w8 w9 w10 w11 w12 w13 w14 w15 w16 w17 w18 w19 w20 w21 w22 h0 n0 _ T57.heap _
                                rw [e57]
                                exact ⟨by rw [own_ec_neg hc7, own_ec_neg hc11, own_ec_neg hc15, own_ec_neg hc19, own_ec_neg hc23, own_ec_neg hc27, own_ec_neg hc31, own_ec_neg hc35, own_ec_neg hc39, own_ec_neg hc43, own_ec_neg hc47, own_ec_neg hc51, own_ec_neg hc55, own_ec_pos hc59], N1, KP⟩
                            · skip
                              obtain ⟨cl60, Ar60, q60, S60, M60, H60, G60⟩ := id VB1
                              have hin60 : ¬ ((14 : Int32) < 0 ∨ cl60.slots.size ≤ ((14 : Int32)).toNatClampNeg) := inb_of S60 ⟨by decide, by decide⟩
                              obtain ⟨T61, X61, e61, st61⟩ := getF X57 hx hZ hown (host := "") (Or.inl (hw _ (List.mem_of_getElem? (i := 68) rfl))) Via.refl e57 F14 (g := (mkF m 21 #[.val (.int c1), .val (.ref b1), .val (.int (23 : Int32)), .val (.int (14 : Int32)), .val (.ref w14)] [(.ref w14)])) rfl rfl (hb hby own_d1_21)
                              have pre62 : ∀ t, Steps p.tables e below (T61.setTop (mkF m 25 #[.val (.int c1), .val (.ref b1), .val (.int (23 : Int32)), .val (.int (14 : Int32)), .val (.ref w14)] [(.int c1), (.int (29 : Int32))])) t → Steps p.tables e below (s₁.setTop (entryFrame m #[(.int c1)] 5)) t := fun t k => pre58 t (by
                                refine XS.icmpYes X57.here hx rfl (pc0 := 25) (pc' := 31) rfl (hb hby own_d1_25) rfl (feq hc59).2 (by decide) (by decide) ?_
                                show Steps p.tables e below (T57.setTop (mkF m 31 #[.val (.int c1), .val (.ref b1), .val (.int (23 : Int32)), .val (.int (13 : Int32)), .val (.ref w13)] [])) _
                                refine XS.iinc X57.here hx rfl (hb hby own_d1_31) rfl (l' := #[.val (.int c1), .val (.ref b1), .val (.int (23 : Int32)), .val (.int (14 : Int32)), .val (.ref w13)]) rfl ?_
                                show Steps p.tables e below (T57.setTop (mkF m 34 #[.val (.int c1), .val (.ref b1), .val (.int (23 : Int32)), .val (.int (14 : Int32)), .val (.ref w13)] [])) _
                                refine XS.goto X57.here hx rfl (pc0 := 34) (pc' := 9) rfl (hb hby own_d1_34) (by decide) (by decide) ?_
                                show Steps p.tables e below (T57.setTop (mkF m 9 #[.val (.int c1), .val (.ref b1), .val (.int (23 : Int32)), .val (.int (14 : Int32)), .val (.ref w13)] [])) _
                                refine XS.iloadN X57.here hx rfl (hb hby own_d1_9) rfl ?_
                                show Steps p.tables e below (T57.setTop (mkF m 10 #[.val (.int c1), .val (.ref b1), .val (.int (23 : Int32)), .val (.int (14 : Int32)), .val (.ref w13)] [(.int (14 : Int32))])) _
                                refine XS.iloadN X57.here hx rfl (hb hby own_d1_10) rfl ?_
                                show Steps p.tables e below (T57.setTop (mkF m 11 #[.val (.int c1), .val (.ref b1), .val (.int (23 : Int32)), .val (.int (14 : Int32)), .val (.ref w13)] [(.int (23 : Int32)), (.int (14 : Int32))])) _
                                refine XS.icmpNo X57.here hx rfl (hb hby own_d1_11) rfl (tlt (by decide : (14 : Int32) < (23 : Int32))).2.1 ?_
                                show Steps p.tables e below (T57.setTop (mkF m 14 #[.val (.int c1), .val (.ref b1), .val (.int (23 : Int32)), .val (.int (14 : Int32)), .val (.ref w13)] [])) _
                                refine XS.aloadN X57.here hx rfl (hb hby own_d1_14) rfl rfl ?_
                                show Steps p.tables e below (T57.setTop (mkF m 15 #[.val (.int c1), .val (.ref b1), .val (.int (23 : Int32)), .val (.int (14 : Int32)), .val (.ref w13)] [(.ref b1)])) _
                                refine XS.iloadN X57.here hx rfl (hb hby own_d1_15) rfl ?_
                                show Steps p.tables e below (T57.setTop (mkF m 16 #[.val (.int c1), .val (.ref b1), .val (.int (23 : Int32)), .val (.int (14 : Int32)), .val (.ref w13)] [(.int (14 : Int32)), (.ref b1)])) _
                                refine X57.aaload hx (j := (14 : Int32)) (v := (.ref w14)) (by rw [e57]; exact Ar60.1) (State.isArrayOf_alike hZ.alike Ar60.2.1) rfl Ar60.2.2 hin60 (H60.at hin60 rfl) (g := (mkF m 16 #[.val (.int c1), .val (.ref b1), .val (.int (23 : Int32)), .val (.int (14 : Int32)), .val (.ref w13)] [(.int (14 : Int32)), (.ref b1)])) rfl rfl (hb hby own_d1_16) _ ?_
                                show Steps p.tables e below (T57.setTop (mkF m 17 #[.val (.int c1), .val (.ref b1), .val (.int (23 : Int32)), .val (.int (14 : Int32)), .val (.ref w13)] [(.ref w14)])) _
                                refine XS.astore X57.here hx rfl (hb hby own_d1_17) rfl rfl (l' := #[.val (.int c1), .val (.ref b1), .val (.int (23 : Int32)), .val (.int (14 : Int32)), .val (.ref w14)]) rfl ?_
                                show Steps p.tables e below (T57.setTop (mkF m 19 #[.val (.int c1), .val (.ref b1), .val (.int (23 : Int32)), .val (.int (14 : Int32)), .val (.ref w14)] [])) _
                                refine XS.aload X57.here hx rfl (hb hby own_d1_19) rfl rfl ?_
                                show Steps p.tables e below (T57.setTop (mkF m 21 #[.val (.int c1), .val (.ref b1), .val (.int (23 : Int32)), .val (.int (14 : Int32)), .val (.ref w14)] [(.ref w14)])) _
                                refine st61 _ ?_
                                show Steps p.tables e below (T61.setTop (mkF m 24 #[.val (.int c1), .val (.ref b1), .val (.int (23 : Int32)), .val (.int (14 : Int32)), .val (.ref w14)] [(.int (29 : Int32))])) _
                                refine XS.iloadN X61.here hx rfl (hb hby own_d1_24) rfl ?_
                                show Steps p.tables e below (T61.setTop (mkF m 25 #[.val (.int c1), .val (.ref b1), .val (.int (23 : Int32)), .val (.int (14 : Int32)), .val (.ref w14)] [(.int c1), (.int (29 : Int32))])) _
                                exact k)
                              by_cases hc63 : (29 : Int32) = c1
                              · skip
                                obtain ⟨fs, hr, hrun, hended, hW, hsame⟩ := X61.leave (v := some (.ref w14)) (fun h => by rw [Bd.returns] at h; cases h)
                                refine ⟨_, _, pre62 _ ?_, hrun, hended, _, _, rfl, ?_, ⟨_, rfl⟩, hW, hsame.mono (by decide) (by decide)⟩
                                · refine XS.icmpNo X61.here hx rfl (hb hby own_d1_25) rfl (teq hc63).2 ?_
                                  show Steps p.tables e below (T61.setTop (mkF m 28 #[.val (.int c1), .val (.ref b1), .val (.int (23 : Int32)), .val (.int (14 : Int32)), .val (.ref w14)] [])) _
                                  refine XS.aload X61.here hx rfl (hb hby own_d1_28) rfl rfl ?_
                                  show Steps p.tables e below (T61.setTop (mkF m 30 #[.val (.int c1), .val (.ref b1), .val (.int (23 : Int32)), .val (.int (14 : Int32)), .val (.ref w14)] [(.ref w14)])) _
                                  exact retOut X61 hx (t := (.object "com/example/vigilant_consumer/vigilantconsumer/ErrorCode")) Bd.returns rfl (Or.inr (Or.inr (Or.inr (Or.inr ⟨rfl, rfl, rfl⟩)))) (hb hby own_d1_30) hr
                                · show own_Q_own_of Z c1 va kv w0 w1 w2 w3 w4 w5 w6 w7 w8 w9 w10 w11 w12 w13 w14 w15 w16 w17 w18 w19 w20 w21 w22 h0 n0 _ T61.heap _
                                  rw [e61]
                                  exact ⟨by rw [own_ec_neg hc7, own_ec_neg hc11, own_ec_neg hc15, own_ec_neg hc19, own_ec_neg hc23, own_ec_neg hc27, own_ec_neg hc31, own_ec_neg hc35, own_ec_neg hc39, own_ec_neg hc43, own_ec_neg hc47, own_ec_neg hc51, own_ec_neg hc55, own_ec_neg hc59, own_ec_pos hc63], N1, KP⟩
                              · skip
                                obtain ⟨cl64, Ar64, q64, S64, M64, H64, G64⟩ := id VB1
                                have hin64 : ¬ ((15 : Int32) < 0 ∨ cl64.slots.size ≤ ((15 : Int32)).toNatClampNeg) := inb_of S64 ⟨by decide, by decide⟩
                                obtain ⟨T65, X65, e65, st65⟩ := getF X61 hx hZ hown (host := "") (Or.inl (hw _ (List.mem_of_getElem? (i := 68) rfl))) Via.refl e61 F15 (g := (mkF m 21 #[.val (.int c1), .val (.ref b1), .val (.int (23 : Int32)), .val (.int (15 : Int32)), .val (.ref w15)] [(.ref w15)])) rfl rfl (hb hby own_d1_21)
                                have pre66 : ∀ t, Steps p.tables e below (T65.setTop (mkF m 25 #[.val (.int c1), .val (.ref b1), .val (.int (23 : Int32)), .val (.int (15 : Int32)), .val (.ref w15)] [(.int c1), (.int (30 : Int32))])) t → Steps p.tables e below (s₁.setTop (entryFrame m #[(.int c1)] 5)) t := fun t k => pre62 t (by
                                  refine XS.icmpYes X61.here hx rfl (pc0 := 25) (pc' := 31) rfl (hb hby own_d1_25) rfl (feq hc63).2 (by decide) (by decide) ?_
                                  show Steps p.tables e below (T61.setTop (mkF m 31 #[.val (.int c1), .val (.ref b1), .val (.int (23 : Int32)), .val (.int (14 : Int32)), .val (.ref w14)] [])) _
                                  refine XS.iinc X61.here hx rfl (hb hby own_d1_31) rfl (l' := #[.val (.int c1), .val (.ref b1), .val (.int (23 : Int32)), .val (.int (15 : Int32)), .val (.ref w14)]) rfl ?_
                                  show Steps p.tables e below (T61.setTop (mkF m 34 #[.val (.int c1), .val (.ref b1), .val (.int (23 : Int32)), .val (.int (15 : Int32)), .val (.ref w14)] [])) _
                                  refine XS.goto X61.here hx rfl (pc0 := 34) (pc' := 9) rfl (hb hby own_d1_34) (by decide) (by decide) ?_
                                  show Steps p.tables e below (T61.setTop (mkF m 9 #[.val (.int c1), .val (.ref b1), .val (.int (23 : Int32)), .val (.int (15 : Int32)), .val (.ref w14)] [])) _
                                  refine XS.iloadN X61.here hx rfl (hb hby own_d1_9) rfl ?_
                                  show Steps p.tables e below (T61.setTop (mkF m 10 #[.val (.int c1), .val (.ref b1), .val (.int (23 : Int32)), .val (.int (15 : Int32)), .val (.ref w14)] [(.int (15 : Int32))])) _
                                  refine XS.iloadN X61.here hx rfl (hb hby own_d1_10) rfl ?_
                                  show Steps p.tables e below (T61.setTop (mkF m 11 #[.val (.int c1), .val (.ref b1), .val (.int (23 : Int32)), .val (.int (15 : Int32)), .val (.ref w14)] [(.int (23 : Int32)), (.int (15 : Int32))])) _
                                  refine XS.icmpNo X61.here hx rfl (hb hby own_d1_11) rfl (tlt (by decide : (15 : Int32) < (23 : Int32))).2.1 ?_
                                  show Steps p.tables e below (T61.setTop (mkF m 14 #[.val (.int c1), .val (.ref b1), .val (.int (23 : Int32)), .val (.int (15 : Int32)), .val (.ref w14)] [])) _
                                  refine XS.aloadN X61.here hx rfl (hb hby own_d1_14) rfl rfl ?_
                                  show Steps p.tables e below (T61.setTop (mkF m 15 #[.val (.int c1), .val (.ref b1), .val (.int (23 : Int32)), .val (.int (15 : Int32)), .val (.ref w14)] [(.ref b1)])) _
                                  refine XS.iloadN X61.here hx rfl (hb hby own_d1_15) rfl ?_
                                  show Steps p.tables e below (T61.setTop (mkF m 16 #[.val (.int c1), .val (.ref b1), .val (.int (23 : Int32)), .val (.int (15 : Int32)), .val (.ref w14)] [(.int (15 : Int32)), (.ref b1)])) _
                                  refine X61.aaload hx (j := (15 : Int32)) (v := (.ref w15)) (by rw [e61]; exact Ar64.1) (State.isArrayOf_alike hZ.alike Ar64.2.1) rfl Ar64.2.2 hin64 (H64.at hin64 rfl) (g := (mkF m 16 #[.val (.int c1), .val (.ref b1), .val (.int (23 : Int32)), .val (.int (15 : Int32)), .val (.ref w14)] [(.int (15 : Int32)), (.ref b1)])) rfl rfl (hb hby own_d1_16) _ ?_
                                  show Steps p.tables e below (T61.setTop (mkF m 17 #[.val (.int c1), .val (.ref b1), .val (.int (23 : Int32)), .val (.int (15 : Int32)), .val (.ref w14)] [(.ref w15)])) _
                                  refine XS.astore X61.here hx rfl (hb hby own_d1_17) rfl rfl (l' := #[.val (.int c1), .val (.ref b1), .val (.int (23 : Int32)), .val (.int (15 : Int32)), .val (.ref w15)]) rfl ?_
                                  show Steps p.tables e below (T61.setTop (mkF m 19 #[.val (.int c1), .val (.ref b1), .val (.int (23 : Int32)), .val (.int (15 : Int32)), .val (.ref w15)] [])) _
                                  refine XS.aload X61.here hx rfl (hb hby own_d1_19) rfl rfl ?_
                                  show Steps p.tables e below (T61.setTop (mkF m 21 #[.val (.int c1), .val (.ref b1), .val (.int (23 : Int32)), .val (.int (15 : Int32)), .val (.ref w15)] [(.ref w15)])) _
                                  refine st65 _ ?_
                                  show Steps p.tables e below (T65.setTop (mkF m 24 #[.val (.int c1), .val (.ref b1), .val (.int (23 : Int32)), .val (.int (15 : Int32)), .val (.ref w15)] [(.int (30 : Int32))])) _
                                  refine XS.iloadN X65.here hx rfl (hb hby own_d1_24) rfl ?_
                                  show Steps p.tables e below (T65.setTop (mkF m 25 #[.val (.int c1), .val (.ref b1), .val (.int (23 : Int32)), .val (.int (15 : Int32)), .val (.ref w15)] [(.int c1), (.int (30 : Int32))])) _
                                  exact k)
                                by_cases hc67 : (30 : Int32) = c1
                                · skip
                                  obtain ⟨fs, hr, hrun, hended, hW, hsame⟩ := X65.leave (v := some (.ref w15)) (fun h => by rw [Bd.returns] at h; cases h)
                                  refine ⟨_, _, pre66 _ ?_, hrun, hended, _, _, rfl, ?_, ⟨_, rfl⟩, hW, hsame.mono (by decide) (by decide)⟩
                                  · refine XS.icmpNo X65.here hx rfl (hb hby own_d1_25) rfl (teq hc67).2 ?_
                                    show Steps p.tables e below (T65.setTop (mkF m 28 #[.val (.int c1), .val (.ref b1), .val (.int (23 : Int32)), .val (.int (15 : Int32)), .val (.ref w15)] [])) _
                                    refine XS.aload X65.here hx rfl (hb hby own_d1_28) rfl rfl ?_
                                    show Steps p.tables e below (T65.setTop (mkF m 30 #[.val (.int c1), .val (.ref b1), .val (.int (23 : Int32)), .val (.int (15 : Int32)), .val (.ref w15)] [(.ref w15)])) _
                                    exact retOut X65 hx (t := (.object "com/example/vigilant_consumer/vigilantconsumer/ErrorCode")) Bd.returns rfl (Or.inr (Or.inr (Or.inr (Or.inr ⟨rfl, rfl, rfl⟩)))) (hb hby own_d1_30) hr
                                  · show own_Q_own_of Z c1 va kv w0 w1 w2 w3 w4 w5 w6 w7 w8 w9 w10 w11 w12 w13 w14 w15 w16 w17 w18 w19 w20 w21 w22 h0 n0 _ T65.heap _
                                    rw [e65]
                                    exact ⟨by rw [own_ec_neg hc7, own_ec_neg hc11, own_ec_neg hc15, own_ec_neg hc19, own_ec_neg hc23, own_ec_neg hc27, own_ec_neg hc31, own_ec_neg hc35, own_ec_neg hc39, own_ec_neg hc43, own_ec_neg hc47, own_ec_neg hc51, own_ec_neg hc55, own_ec_neg hc59, own_ec_neg hc63, own_ec_pos hc67], N1, KP⟩
                                · skip
                                  obtain ⟨cl68, Ar68, q68, S68, M68, H68, G68⟩ := id VB1
                                  have hin68 : ¬ ((16 : Int32) < 0 ∨ cl68.slots.size ≤ ((16 : Int32)).toNatClampNeg) := inb_of S68 ⟨by decide, by decide⟩
                                  obtain ⟨T69, X69, e69, st69⟩ := getF X65 hx hZ hown (host := "") (Or.inl (hw _ (List.mem_of_getElem? (i := 68) rfl))) Via.refl e65 F16 (g := (mkF m 21 #[.val (.int c1), .val (.ref b1), .val (.int (23 : Int32)), .val (.int (16 : Int32)), .val (.ref w16)] [(.ref w16)])) rfl rfl (hb hby own_d1_21)
                                  have pre70 : ∀ t, Steps p.tables e below (T69.setTop (mkF m 25 #[.val (.int c1), .val (.ref b1), .val (.int (23 : Int32)), .val (.int (16 : Int32)), .val (.ref w16)] [(.int c1), (.int (35 : Int32))])) t → Steps p.tables e below (s₁.setTop (entryFrame m #[(.int c1)] 5)) t := fun t k => pre66 t (by
                                    refine XS.icmpYes X65.here hx rfl (pc0 := 25) (pc' := 31) rfl (hb hby own_d1_25) rfl (feq hc67).2 (by decide) (by decide) ?_
                                    show Steps p.tables e below (T65.setTop (mkF m 31 #[.val (.int c1), .val (.ref b1), .val (.int (23 : Int32)), .val (.int (15 : Int32)), .val (.ref w15)] [])) _
                                    refine XS.iinc X65.here hx rfl (hb hby own_d1_31) rfl (l' := #[.val (.int c1), .val (.ref b1), .val (.int (23 : Int32)), .val (.int (16 : Int32)), .val (.ref w15)]) rfl ?_
                                    show Steps p.tables e below (T65.setTop (mkF m 34 #[.val (.int c1), .val (.ref b1), .val (.int (23 : Int32)), .val (.int (16 : Int32)), .val (.ref w15)] [])) _
                                    refine XS.goto X65.here hx rfl (pc0 := 34) (pc' := 9) rfl (hb hby own_d1_34) (by decide) (by decide) ?_
                                    show Steps p.tables e below (T65.setTop (mkF m 9 #[.val (.int c1), .val (.ref b1), .val (.int (23 : Int32)), .val (.int (16 : Int32)), .val (.ref w15)] [])) _
                                    refine XS.iloadN X65.here hx rfl (hb hby own_d1_9) rfl ?_
                                    show Steps p.tables e below (T65.setTop (mkF m 10 #[.val (.int c1), .val (.ref b1), .val (.int (23 : Int32)), .val (.int (16 : Int32)), .val (.ref w15)] [(.int (16 : Int32))])) _
                                    refine XS.iloadN X65.here hx rfl (hb hby own_d1_10) rfl ?_
                                    show Steps p.tables e below (T65.setTop (mkF m 11 #[.val (.int c1), .val (.ref b1), .val (.int (23 : Int32)), .val (.int (16 : Int32)), .val (.ref w15)] [(.int (23 : Int32)), (.int (16 : Int32))])) _
                                    refine XS.icmpNo X65.here hx rfl (hb hby own_d1_11) rfl (tlt (by decide : (16 : Int32) < (23 : Int32))).2.1 ?_
                                    show Steps p.tables e below (T65.setTop (mkF m 14 #[.val (.int c1), .val (.ref b1), .val (.int (23 : Int32)), .val (.int (16 : Int32)), .val (.ref w15)] [])) _
                                    refine XS.aloadN X65.here hx rfl (hb hby own_d1_14) rfl rfl ?_
                                    show Steps p.tables e below (T65.setTop (mkF m 15 #[.val (.int c1), .val (.ref b1), .val (.int (23 : Int32)), .val (.int (16 : Int32)), .val (.ref w15)] [(.ref b1)])) _
                                    refine XS.iloadN X65.here hx rfl (hb hby own_d1_15) rfl ?_
                                    show Steps p.tables e below (T65.setTop (mkF m 16 #[.val (.int c1), .val (.ref b1), .val (.int (23 : Int32)), .val (.int (16 : Int32)), .val (.ref w15)] [(.int (16 : Int32)), (.ref b1)])) _
                                    refine X65.aaload hx (j := (16 : Int32)) (v := (.ref w16)) (by rw [e65]; exact Ar68.1) (State.isArrayOf_alike hZ.alike Ar68.2.1) rfl Ar68.2.2 hin68 (H68.at hin68 rfl) (g := (mkF m 16 #[.val (.int c1), .val (.ref b1), .val (.int (23 : Int32)), .val (.int (16 : Int32)), .val (.ref w15)] [(.int (16 : Int32)), (.ref b1)])) rfl rfl (hb hby own_d1_16) _ ?_
                                    show Steps p.tables e below (T65.setTop (mkF m 17 #[.val (.int c1), .val (.ref b1), .val (.int (23 : Int32)), .val (.int (16 : Int32)), .val (.ref w15)] [(.ref w16)])) _
                                    refine XS.astore X65.here hx rfl (hb hby own_d1_17) rfl rfl (l' := #[.val (.int c1), .val (.ref b1), .val (.int (23 : Int32)), .val (.int (16 : Int32)), .val (.ref w16)]) rfl ?_
                                    show Steps p.tables e below (T65.setTop (mkF m 19 #[.val (.int c1), .val (.ref b1), .val (.int (23 : Int32)), .val (.int (16 : Int32)), .val (.ref w16)] [])) _
                                    refine XS.aload X65.here hx rfl (hb hby own_d1_19) rfl rfl ?_
                                    show Steps p.tables e below (T65.setTop (mkF m 21 #[.val (.int c1), .val (.ref b1), .val (.int (23 : Int32)), .val (.int (16 : Int32)), .val (.ref w16)] [(.ref w16)])) _
                                    refine st69 _ ?_
                                    show Steps p.tables e below (T69.setTop (mkF m 24 #[.val (.int c1), .val (.ref b1), .val (.int (23 : Int32)), .val (.int (16 : Int32)), .val (.ref w16)] [(.int (35 : Int32))])) _
                                    refine XS.iloadN X69.here hx rfl (hb hby own_d1_24) rfl ?_
                                    show Steps p.tables e below (T69.setTop (mkF m 25 #[.val (.int c1), .val (.ref b1), .val (.int (23 : Int32)), .val (.int (16 : Int32)), .val (.ref w16)] [(.int c1), (.int (35 : Int32))])) _
                                    exact k)
                                  by_cases hc71 : (35 : Int32) = c1
                                  · skip
                                    obtain ⟨fs, hr, hrun, hended, hW, hsame⟩ := X69.leave (v := some (.ref w16)) (fun h => by rw [Bd.returns] at h; cases h)
                                    refine ⟨_, _, pre70 _ ?_, hrun, hended, _, _, rfl, ?_, ⟨_, rfl⟩, hW, hsame.mono (by decide) (by decide)⟩
                                    · refine XS.icmpNo X69.here hx rfl (hb hby own_d1_25) rfl (teq hc71).2 ?_
                                      show Steps p.tables e below (T69.setTop (mkF m 28 #[.val (.int c1), .val (.ref b1), .val (.int (23 : Int32)), .val (.int (16 : Int32)), .val (.ref w16)] [])) _
                                      refine XS.aload X69.here hx rfl (hb hby own_d1_28) rfl rfl ?_
                                      show Steps p.tables e below (T69.setTop (mkF m 30 #[.val (.int c1), .val (.ref b1), .val (.int (23 : Int32)), .val (.int (16 : Int32)), .val (.ref w16)] [(.ref w16)])) _
                                      exact retOut X69 hx (t := (.object "com/example/vigilant_consumer/vigilantconsumer/ErrorCode")) Bd.returns rfl (Or.inr (Or.inr (Or.inr (Or.inr ⟨rfl, rfl, rfl⟩)))) (hb hby own_d1_30) hr
                                    · show own_Q_own_of Z c1 va kv w0 w1 w2 w3 w4 w5 w6 w7 w8 w9 w10 w11 w12 w13 w14 w15 w16 w17 w18 w19 w20 w21 w22 h0 n0 _ T69.heap _
                                      rw [e69]
                                      exact ⟨by rw [own_ec_neg hc7, own_ec_neg hc11, own_ec_neg hc15, own_ec_neg hc19, own_ec_neg hc23, own_ec_neg hc27, own_ec_neg hc31, own_ec_neg hc35, own_ec_neg hc39, own_ec_neg hc43, own_ec_neg hc47, own_ec_neg hc51, own_ec_neg hc55, own_ec_neg hc59, own_ec_neg hc63, own_ec_neg hc67, own_ec_pos hc71], N1, KP⟩
                                  · skip
                                    obtain ⟨cl72, Ar72, q72, S72, M72, H72, G72⟩ := id VB1
                                    have hin72 : ¬ ((17 : Int32) < 0 ∨ cl72.slots.size ≤ ((17 : Int32)).toNatClampNeg) := inb_of S72 ⟨by decide, by decide⟩
                                    obtain ⟨T73, X73, e73, st73⟩ := getF X69 hx hZ hown (host := "") (Or.inl (hw _ (List.mem_of_getElem? (i := 68) rfl))) Via.refl e69 F17 (g := (mkF m 21 #[.val (.int c1), .val (.ref b1), .val (.int (23 : Int32)), .val (.int (17 : Int32)), .val (.ref w17)] [(.ref w17)])) rfl rfl (hb hby own_d1_21)
                                    have pre74 : ∀ t, Steps p.tables e below (T73.setTop (mkF m 25 #[.val (.int c1), .val (.ref b1), .val (.int (23 : Int32)), .val (.int (17 : Int32)), .val (.ref w17)] [(.int c1), (.int (42 : Int32))])) t → Steps p.tables e below (s₁.setTop (entryFrame m #[(.int c1)] 5)) t := fun t k => pre70 t (by
                                      refine XS.icmpYes X69.here hx rfl (pc0 := 25) (pc' := 31) rfl (hb hby own_d1_25) rfl (feq hc71).2 (by decide) (by decide) ?_
                                      show Steps p.tables e below (T69.setTop (mkF m 31 #[.val (.int c1), .val (.ref b1), .val (.int (23 : Int32)), .val (.int (16 : Int32)), .val (.ref w16)] [])) _
                                      refine XS.iinc X69.here hx rfl (hb hby own_d1_31) rfl (l' := #[.val (.int c1), .val (.ref b1), .val (.int (23 : Int32)), .val (.int (17 : Int32)), .val (.ref w16)]) rfl ?_
                                      show Steps p.tables e below (T69.setTop (mkF m 34 #[.val (.int c1), .val (.ref b1), .val (.int (23 : Int32)), .val (.int (17 : Int32)), .val (.ref w16)] [])) _
                                      refine XS.goto X69.here hx rfl (pc0 := 34) (pc' := 9) rfl (hb hby own_d1_34) (by decide) (by decide) ?_
                                      show Steps p.tables e below (T69.setTop (mkF m 9 #[.val (.int c1), .val (.ref b1), .val (.int (23 : Int32)), .val (.int (17 : Int32)), .val (.ref w16)] [])) _
                                      refine XS.iloadN X69.here hx rfl (hb hby own_d1_9) rfl ?_
                                      show Steps p.tables e below (T69.setTop (mkF m 10 #[.val (.int c1), .val (.ref b1), .val (.int (23 : Int32)), .val (.int (17 : Int32)), .val (.ref w16)] [(.int (17 : Int32))])) _
                                      refine XS.iloadN X69.here hx rfl (hb hby own_d1_10) rfl ?_
                                      show Steps p.tables e below (T69.setTop (mkF m 11 #[.val (.int c1), .val (.ref b1), .val (.int (23 : Int32)), .val (.int (17 : Int32)), .val (.ref w16)] [(.int (23 : Int32)), (.int (17 : Int32))])) _
                                      refine XS.icmpNo X69.here hx rfl (hb hby own_d1_11) rfl (tlt (by decide : (17 : Int32) < (23 : Int32))).2.1 ?_
                                      show Steps p.tables e below (T69.setTop (mkF m 14 #[.val (.int c1), .val (.ref b1), .val (.int (23 : Int32)), .val (.int (17 : Int32)), .val (.ref w16)] [])) _
                                      refine XS.aloadN X69.here hx rfl (hb hby own_d1_14) rfl rfl ?_
                                      show Steps p.tables e below (T69.setTop (mkF m 15 #[.val (.int c1), .val (.ref b1), .val (.int (23 : Int32)), .val (.int (17 : Int32)), .val (.ref w16)] [(.ref b1)])) _
                                      refine XS.iloadN X69.here hx rfl (hb hby own_d1_15) rfl ?_
                                      show Steps p.tables e below (T69.setTop (mkF m 16 #[.val (.int c1), .val (.ref b1), .val (.int (23 : Int32)), .val (.int (17 : Int32)), .val (.ref w16)] [(.int (17 : Int32)), (.ref b1)])) _
                                      refine X69.aaload hx (j := (17 : Int32)) (v := (.ref w17)) (by rw [e69]; exact Ar72.1) (State.isArrayOf_alike hZ.alike Ar72.2.1) rfl Ar72.2.2 hin72 (H72.at hin72 rfl) (g := (mkF m 16 #[.val (.int c1), .val (.ref b1), .val (.int (23 : Int32)), .val (.int (17 : Int32)), .val (.ref w16)] [(.int (17 : Int32)), (.ref b1)])) rfl rfl (hb hby own_d1_16) _ ?_
                                      show Steps p.tables e below (T69.setTop (mkF m 17 #[.val (.int c1), .val (.ref b1), .val (.int (23 : Int32)), .val (.int (17 : Int32)), .val (.ref w16)] [(.ref w17)])) _
                                      refine XS.astore X69.here hx rfl (hb hby own_d1_17) rfl rfl (l' := #[.val (.int c1), .val (.ref b1), .val (.int (23 : Int32)), .val (.int (17 : Int32)), .val (.ref w17)]) rfl ?_
                                      show Steps p.tables e below (T69.setTop (mkF m 19 #[.val (.int c1), .val (.ref b1), .val (.int (23 : Int32)), .val (.int (17 : Int32)), .val (.ref w17)] [])) _
                                      refine XS.aload X69.here hx rfl (hb hby own_d1_19) rfl rfl ?_
                                      show Steps p.tables e below (T69.setTop (mkF m 21 #[.val (.int c1), .val (.ref b1), .val (.int (23 : Int32)), .val (.int (17 : Int32)), .val (.ref w17)] [(.ref w17)])) _
                                      refine st73 _ ?_
                                      show Steps p.tables e below (T73.setTop (mkF m 24 #[.val (.int c1), .val (.ref b1), .val (.int (23 : Int32)), .val (.int (17 : Int32)), .val (.ref w17)] [(.int (42 : Int32))])) _
                                      refine XS.iloadN X73.here hx rfl (hb hby own_d1_24) rfl ?_
                                      show Steps p.tables e below (T73.setTop (mkF m 25 #[.val (.int c1), .val (.ref b1), .val (.int (23 : Int32)), .val (.int (17 : Int32)), .val (.ref w17)] [(.int c1), (.int (42 : Int32))])) _
                                      exact k)
                                    by_cases hc75 : (42 : Int32) = c1
                                    · skip
                                      obtain ⟨fs, hr, hrun, hended, hW, hsame⟩ := X73.leave (v := some (.ref w17)) (fun h => by rw [Bd.returns] at h; cases h)
                                      refine ⟨_, _, pre74 _ ?_, hrun, hended, _, _, rfl, ?_, ⟨_, rfl⟩, hW, hsame.mono (by decide) (by decide)⟩
                                      · refine XS.icmpNo X73.here hx rfl (hb hby own_d1_25) rfl (teq hc75).2 ?_
                                        show Steps p.tables e below (T73.setTop (mkF m 28 #[.val (.int c1), .val (.ref b1), .val (.int (23 : Int32)), .val (.int (17 : Int32)), .val (.ref w17)] [])) _
                                        refine XS.aload X73.here hx rfl (hb hby own_d1_28) rfl rfl ?_
                                        show Steps p.tables e below (T73.setTop (mkF m 30 #[.val (.int c1), .val (.ref b1), .val (.int (23 : Int32)), .val (.int (17 : Int32)), .val (.ref w17)] [(.ref w17)])) _
                                        exact retOut X73 hx (t := (.object "com/example/vigilant_consumer/vigilantconsumer/ErrorCode")) Bd.returns rfl (Or.inr (Or.inr (Or.inr (Or.inr ⟨rfl, rfl, rfl⟩)))) (hb hby own_d1_30) hr
                                      · show own_Q_own_of Z c1 va kv w0 w1 w2 w3 w4 w5 w6 w7 w8 w9 w10 w11 w12 w13 w14 w15 w16 w17 w18 w19 w20 w21 w22 h0 n0 _ T73.heap _
                                        rw [e73]
                                        exact ⟨by rw [own_ec_neg hc7, own_ec_neg hc11, own_ec_neg hc15, own_ec_neg hc19, own_ec_neg hc23, own_ec_neg hc27, own_ec_neg hc31, own_ec_neg hc35, own_ec_neg hc39, own_ec_neg hc43, own_ec_neg hc47, own_ec_neg hc51, own_ec_neg hc55, own_ec_neg hc59, own_ec_neg hc63, own_ec_neg hc67, own_ec_neg hc71, own_ec_pos hc75], N1, KP⟩
                                    · skip
                                      obtain ⟨cl76, Ar76, q76, S76, M76, H76, G76⟩ := id VB1
                                      have hin76 : ¬ ((18 : Int32) < 0 ∨ cl76.slots.size ≤ ((18 : Int32)).toNatClampNeg) := inb_of S76 ⟨by decide, by decide⟩
                                      obtain ⟨T77, X77, e77, st77⟩ := getF X73 hx hZ hown (host := "") (Or.inl (hw _ (List.mem_of_getElem? (i := 68) rfl))) Via.refl e73 F18 (g := (mkF m 21 #[.val (.int c1), .val (.ref b1), .val (.int (23 : Int32)), .val (.int (18 : Int32)), .val (.ref w18)] [(.ref w18)])) rfl rfl (hb hby own_d1_21)
                                      have pre78 : ∀ t, Steps p.tables e below (T77.setTop (mkF m 25 #[.val (.int c1), .val (.ref b1), .val (.int (23 : Int32)), .val (.int (18 : Int32)), .val (.ref w18)] [(.int c1), (.int (56 : Int32))])) t → Steps p.tables e below (s₁.setTop (entryFrame m #[(.int c1)] 5)) t := fun t k => pre74 t (by
                                        refine XS.icmpYes X73.here hx rfl (pc0 := 25) (pc' := 31) rfl (hb hby own_d1_25) rfl (feq hc75).2 (by decide) (by decide) ?_
                                        show Steps p.tables e below (T73.setTop (mkF m 31 #[.val (.int c1), .val (.ref b1), .val (.int (23 : Int32)), .val (.int (17 : Int32)), .val (.ref w17)] [])) _
                                        refine XS.iinc X73.here hx rfl (hb hby own_d1_31) rfl (l' := #[.val (.int c1), .val (.ref b1), .val (.int (23 : Int32)), .val (.int (18 : Int32)), .val (.ref w17)]) rfl ?_
                                        show Steps p.tables e below (T73.setTop (mkF m 34 #[.val (.int c1), .val (.ref b1), .val (.int (23 : Int32)), .val (.int (18 : Int32)), .val (.ref w17)] [])) _
                                        refine XS.goto X73.here hx rfl (pc0 := 34) (pc' := 9) rfl (hb hby own_d1_34) (by decide) (by decide) ?_
                                        show Steps p.tables e below (T73.setTop (mkF m 9 #[.val (.int c1), .val (.ref b1), .val (.int (23 : Int32)), .val (.int (18 : Int32)), .val (.ref w17)] [])) _
                                        refine XS.iloadN X73.here hx rfl (hb hby own_d1_9) rfl ?_
                                        show Steps p.tables e below (T73.setTop (mkF m 10 #[.val (.int c1), .val (.ref b1), .val (.int (23 : Int32)), .val (.int (18 : Int32)), .val (.ref w17)] [(.int (18 : Int32))])) _
                                        refine XS.iloadN X73.here hx rfl (hb hby own_d1_10) rfl ?_
                                        show Steps p.tables e below (T73.setTop (mkF m 11 #[.val (.int c1), .val (.ref b1), .val (.int (23 : Int32)), .val (.int (18 : Int32)), .val (.ref w17)] [(.int (23 : Int32)), (.int (18 : Int32))])) _
                                        refine XS.icmpNo X73.here hx rfl (hb hby own_d1_11) rfl (tlt (by decide : (18 : Int32) < (23 : Int32))).2.1 ?_
                                        show Steps p.tables e below (T73.setTop (mkF m 14 #[.val (.int c1), .val (.ref b1), .val (.int (23 : Int32)), .val (.int (18 : Int32)), .val (.ref w17)] [])) _
                                        refine XS.aloadN X73.here hx rfl (hb hby own_d1_14) rfl rfl ?_
                                        show Steps p.tables e below (T73.setTop (mkF m 15 #[.val (.int c1), .val (.ref b1), .val (.int (23 : Int32)), .val (.int (18 : Int32)), .val (.ref w17)] [(.ref b1)])) _
                                        refine XS.iloadN X73.here hx rfl (hb hby own_d1_15) rfl ?_
                                        show Steps p.tables e below (T73.setTop (mkF m 16 #[.val (.int c1), .val (.ref b1), .val (.int (23 : Int32)), .val (.int (18 : Int32)), .val (.ref w17)] [(.int (18 : Int32)), (.ref b1)])) _
                                        refine X73.aaload hx (j := (18 : Int32)) (v := (.ref w18)) (by rw [e73]; exact Ar76.1) (State.isArrayOf_alike hZ.alike Ar76.2.1) rfl Ar76.2.2 hin76 (H76.at hin76 rfl) (g := (mkF m 16 #[.val (.int c1), .val (.ref b1), .val (.int (23 : Int32)), .val (.int (18 : Int32)), .val (.ref w17)] [(.int (18 : Int32)), (.ref b1)])) rfl rfl (hb hby own_d1_16) _ ?_
                                        show Steps p.tables e below (T73.setTop (mkF m 17 #[.val (.int c1), .val (.ref b1), .val (.int (23 : Int32)), .val (.int (18 : Int32)), .val (.ref w17)] [(.ref w18)])) _
                                        refine XS.astore X73.here hx rfl (hb hby own_d1_17) rfl rfl (l' := #[.val (.int c1), .val (.ref b1), .val (.int (23 : Int32)), .val (.int (18 : Int32)), .val (.ref w18)]) rfl ?_
                                        show Steps p.tables e below (T73.setTop (mkF m 19 #[.val (.int c1), .val (.ref b1), .val (.int (23 : Int32)), .val (.int (18 : Int32)), .val (.ref w18)] [])) _
                                        refine XS.aload X73.here hx rfl (hb hby own_d1_19) rfl rfl ?_
                                        show Steps p.tables e below (T73.setTop (mkF m 21 #[.val (.int c1), .val (.ref b1), .val (.int (23 : Int32)), .val (.int (18 : Int32)), .val (.ref w18)] [(.ref w18)])) _
                                        refine st77 _ ?_
                                        show Steps p.tables e below (T77.setTop (mkF m 24 #[.val (.int c1), .val (.ref b1), .val (.int (23 : Int32)), .val (.int (18 : Int32)), .val (.ref w18)] [(.int (56 : Int32))])) _
                                        refine XS.iloadN X77.here hx rfl (hb hby own_d1_24) rfl ?_
                                        show Steps p.tables e below (T77.setTop (mkF m 25 #[.val (.int c1), .val (.ref b1), .val (.int (23 : Int32)), .val (.int (18 : Int32)), .val (.ref w18)] [(.int c1), (.int (56 : Int32))])) _
                                        exact k)
                                      by_cases hc79 : (56 : Int32) = c1
                                      · skip
                                        obtain ⟨fs, hr, hrun, hended, hW, hsame⟩ := X77.leave (v := some (.ref w18)) (fun h => by rw [Bd.returns] at h; cases h)
                                        refine ⟨_, _, pre78 _ ?_, hrun, hended, _, _, rfl, ?_, ⟨_, rfl⟩, hW, hsame.mono (by decide) (by decide)⟩
                                        · refine XS.icmpNo X77.here hx rfl (hb hby own_d1_25) rfl (teq hc79).2 ?_
                                          show Steps p.tables e below (T77.setTop (mkF m 28 #[.val (.int c1), .val (.ref b1), .val (.int (23 : Int32)), .val (.int (18 : Int32)), .val (.ref w18)] [])) _
                                          refine XS.aload X77.here hx rfl (hb hby own_d1_28) rfl rfl ?_
                                          show Steps p.tables e below (T77.setTop (mkF m 30 #[.val (.int c1), .val (.ref b1), .val (.int (23 : Int32)), .val (.int (18 : Int32)), .val (.ref w18)] [(.ref w18)])) _
                                          exact retOut X77 hx (t := (.object "com/example/vigilant_consumer/vigilantconsumer/ErrorCode")) Bd.returns rfl (Or.inr (Or.inr (Or.inr (Or.inr ⟨rfl, rfl, rfl⟩)))) (hb hby own_d1_30) hr
                                        · show own_Q_own_of Z c1 va kv w0 w1 w2 w3 w4 w5 w6 w7 w8 w9 w10 w11 w12 w13 w14 w15 w16 w17 w18 w19 w20 w21 w22 h0 n0 _ T77.heap _
                                          rw [e77]
                                          exact ⟨by rw [own_ec_neg hc7, own_ec_neg hc11, own_ec_neg hc15, own_ec_neg hc19, own_ec_neg hc23, own_ec_neg hc27, own_ec_neg hc31, own_ec_neg hc35, own_ec_neg hc39, own_ec_neg hc43, own_ec_neg hc47, own_ec_neg hc51, own_ec_neg hc55, own_ec_neg hc59, own_ec_neg hc63, own_ec_neg hc67, own_ec_neg hc71, own_ec_neg hc75, own_ec_pos hc79], N1, KP⟩
                                      · skip
                                        obtain ⟨cl80, Ar80, q80, S80, M80, H80, G80⟩ := id VB1
                                        have hin80 : ¬ ((19 : Int32) < 0 ∨ cl80.slots.size ≤ ((19 : Int32)).toNatClampNeg) := inb_of S80 ⟨by decide, by decide⟩
                                        obtain ⟨T81, X81, e81, st81⟩ := getF X77 hx hZ hown (host := "") (Or.inl (hw _ (List.mem_of_getElem? (i := 68) rfl))) Via.refl e77 F19 (g := (mkF m 21 #[.val (.int c1), .val (.ref b1), .val (.int (23 : Int32)), .val (.int (19 : Int32)), .val (.ref w19)] [(.ref w19)])) rfl rfl (hb hby own_d1_21)
                                        have pre82 : ∀ t, Steps p.tables e below (T81.setTop (mkF m 25 #[.val (.int c1), .val (.ref b1), .val (.int (23 : Int32)), .val (.int (19 : Int32)), .val (.ref w19)] [(.int c1), (.int (74 : Int32))])) t → Steps p.tables e below (s₁.setTop (entryFrame m #[(.int c1)] 5)) t := fun t k => pre78 t (by
                                          refine XS.icmpYes X77.here hx rfl (pc0 := 25) (pc' := 31) rfl (hb hby own_d1_25) rfl (feq hc79).2 (by decide) (by decide) ?_
                                          show Steps p.tables e below (T77.setTop (mkF m 31 #[.val (.int c1), .val (.ref b1), .val (.int (23 : Int32)), .val (.int (18 : Int32)), .val (.ref w18)] [])) _
                                          refine XS.iinc X77.here hx rfl (hb hby own_d1_31) rfl (l' := #[.val (.int c1), .val (.ref b1), .val (.int (23 : Int32)), .val (.int (19 : Int32)), .val (.ref w18)]) rfl ?_
                                          show Steps p.tables e below (T77.setTop (mkF m 34 #[.val (.int c1), .val (.ref b1), .val (.int (23 : Int32)), .val (.int (19 : Int32)), .val (.ref w18)] [])) _
                                          refine XS.goto X77.here hx rfl (pc0 := 34) (pc' := 9) rfl (hb hby own_d1_34) (by decide) (by decide) ?_
                                          show Steps p.tables e below (T77.setTop (mkF m 9 #[.val (.int c1), .val (.ref b1), .val (.int (23 : Int32)), .val (.int (19 : Int32)), .val (.ref w18)] [])) _
                                          refine XS.iloadN X77.here hx rfl (hb hby own_d1_9) rfl ?_
                                          show Steps p.tables e below (T77.setTop (mkF m 10 #[.val (.int c1), .val (.ref b1), .val (.int (23 : Int32)), .val (.int (19 : Int32)), .val (.ref w18)] [(.int (19 : Int32))])) _
                                          refine XS.iloadN X77.here hx rfl (hb hby own_d1_10) rfl ?_
                                          show Steps p.tables e below (T77.setTop (mkF m 11 #[.val (.int c1), .val (.ref b1), .val (.int (23 : Int32)), .val (.int (19 : Int32)), .val (.ref w18)] [(.int (23 : Int32)), (.int (19 : Int32))])) _
                                          refine XS.icmpNo X77.here hx rfl (hb hby own_d1_11) rfl (tlt (by decide : (19 : Int32) < (23 : Int32))).2.1 ?_
                                          show Steps p.tables e below (T77.setTop (mkF m 14 #[.val (.int c1), .val (.ref b1), .val (.int (23 : Int32)), .val (.int (19 : Int32)), .val (.ref w18)] [])) _
                                          refine XS.aloadN X77.here hx rfl (hb hby own_d1_14) rfl rfl ?_
                                          show Steps p.tables e below (T77.setTop (mkF m 15 #[.val (.int c1), .val (.ref b1), .val (.int (23 : Int32)), .val (.int (19 : Int32)), .val (.ref w18)] [(.ref b1)])) _
                                          refine XS.iloadN X77.here hx rfl (hb hby own_d1_15) rfl ?_
                                          show Steps p.tables e below (T77.setTop (mkF m 16 #[.val (.int c1), .val (.ref b1), .val (.int (23 : Int32)), .val (.int (19 : Int32)), .val (.ref w18)] [(.int (19 : Int32)), (.ref b1)])) _
                                          refine X77.aaload hx (j := (19 : Int32)) (v := (.ref w19)) (by rw [e77]; exact Ar80.1) (State.isArrayOf_alike hZ.alike Ar80.2.1) rfl Ar80.2.2 hin80 (H80.at hin80 rfl) (g := (mkF m 16 #[.val (.int c1), .val (.ref b1), .val (.int (23 : Int32)), .val (.int (19 : Int32)), .val (.ref w18)] [(.int (19 : Int32)), (.ref b1)])) rfl rfl (hb hby own_d1_16) _ ?_
                                          show Steps p.tables e below (T77.setTop (mkF m 17 #[.val (.int c1), .val (.ref b1), .val (.int (23 : Int32)), .val (.int (19 : Int32)), .val (.ref w18)] [(.ref w19)])) _
                                          refine XS.astore X77.here hx rfl (hb hby own_d1_17) rfl rfl (l' := #[.val (.int c1), .val (.ref b1), .val (.int (23 : Int32)), .val (.int (19 : Int32)), .val (.ref w19)]) rfl ?_
                                          show Steps p.tables e below (T77.setTop (mkF m 19 #[.val (.int c1), .val (.ref b1), .val (.int (23 : Int32)), .val (.int (19 : Int32)), .val (.ref w19)] [])) _
                                          refine XS.aload X77.here hx rfl (hb hby own_d1_19) rfl rfl ?_
                                          show Steps p.tables e below (T77.setTop (mkF m 21 #[.val (.int c1), .val (.ref b1), .val (.int (23 : Int32)), .val (.int (19 : Int32)), .val (.ref w19)] [(.ref w19)])) _
                                          refine st81 _ ?_
                                          show Steps p.tables e below (T81.setTop (mkF m 24 #[.val (.int c1), .val (.ref b1), .val (.int (23 : Int32)), .val (.int (19 : Int32)), .val (.ref w19)] [(.int (74 : Int32))])) _
                                          refine XS.iloadN X81.here hx rfl (hb hby own_d1_24) rfl ?_
                                          show Steps p.tables e below (T81.setTop (mkF m 25 #[.val (.int c1), .val (.ref b1), .val (.int (23 : Int32)), .val (.int (19 : Int32)), .val (.ref w19)] [(.int c1), (.int (74 : Int32))])) _
                                          exact k)
                                        by_cases hc83 : (74 : Int32) = c1
                                        · skip
                                          obtain ⟨fs, hr, hrun, hended, hW, hsame⟩ := X81.leave (v := some (.ref w19)) (fun h => by rw [Bd.returns] at h; cases h)
                                          refine ⟨_, _, pre82 _ ?_, hrun, hended, _, _, rfl, ?_, ⟨_, rfl⟩, hW, hsame.mono (by decide) (by decide)⟩
                                          · refine XS.icmpNo X81.here hx rfl (hb hby own_d1_25) rfl (teq hc83).2 ?_
                                            show Steps p.tables e below (T81.setTop (mkF m 28 #[.val (.int c1), .val (.ref b1), .val (.int (23 : Int32)), .val (.int (19 : Int32)), .val (.ref w19)] [])) _
                                            refine XS.aload X81.here hx rfl (hb hby own_d1_28) rfl rfl ?_
                                            show Steps p.tables e below (T81.setTop (mkF m 30 #[.val (.int c1), .val (.ref b1), .val (.int (23 : Int32)), .val (.int (19 : Int32)), .val (.ref w19)] [(.ref w19)])) _
                                            exact retOut X81 hx (t := (.object "com/example/vigilant_consumer/vigilantconsumer/ErrorCode")) Bd.returns rfl (Or.inr (Or.inr (Or.inr (Or.inr ⟨rfl, rfl, rfl⟩)))) (hb hby own_d1_30) hr
                                          · show own_Q_own_of Z c1 va kv w0 w1 w2 w3 w4 w5 w6 w7 w8 w9 w10 w11 w12 w13 w14 w15 w16 w17 w18 w19 w20 w21 w22 h0 n0 _ T81.heap _
                                            rw [e81]
                                            exact ⟨by rw [own_ec_neg hc7, own_ec_neg hc11, own_ec_neg hc15, own_ec_neg hc19, own_ec_neg hc23, own_ec_neg hc27, own_ec_neg hc31, own_ec_neg hc35, own_ec_neg hc39, own_ec_neg hc43, own_ec_neg hc47, own_ec_neg hc51, own_ec_neg hc55, own_ec_neg hc59, own_ec_neg hc63, own_ec_neg hc67, own_ec_neg hc71, own_ec_neg hc75, own_ec_neg hc79, own_ec_pos hc83], N1, KP⟩
                                        · skip
                                          obtain ⟨cl84, Ar84, q84, S84, M84, H84, G84⟩ := id VB1
                                          have hin84 : ¬ ((20 : Int32) < 0 ∨ cl84.slots.size ≤ ((20 : Int32)).toNatClampNeg) := inb_of S84 ⟨by decide, by decide⟩
                                          obtain ⟨T85, X85, e85, st85⟩ := getF X81 hx hZ hown (host := "") (Or.inl (hw _ (List.mem_of_getElem? (i := 68) rfl))) Via.refl e81 F20 (g := (mkF m 21 #[.val (.int c1), .val (.ref b1), .val (.int (23 : Int32)), .val (.int (20 : Int32)), .val (.ref w20)] [(.ref w20)])) rfl rfl (hb hby own_d1_21)
                                          have pre86 : ∀ t, Steps p.tables e below (T85.setTop (mkF m 25 #[.val (.int c1), .val (.ref b1), .val (.int (23 : Int32)), .val (.int (20 : Int32)), .val (.ref w20)] [(.int c1), (.int (75 : Int32))])) t → Steps p.tables e below (s₁.setTop (entryFrame m #[(.int c1)] 5)) t := fun t k => pre82 t (by
                                            refine XS.icmpYes X81.here hx rfl (pc0 := 25) (pc' := 31) rfl (hb hby own_d1_25) rfl (feq hc83).2 (by decide) (by decide) ?_
                                            show Steps p.tables e below (T81.setTop (mkF m 31 #[.val (.int c1), .val (.ref b1), .val (.int (23 : Int32)), .val (.int (19 : Int32)), .val (.ref w19)] [])) _
                                            refine XS.iinc X81.here hx rfl (hb hby own_d1_31) rfl (l' := #[.val (.int c1), .val (.ref b1), .val (.int (23 : Int32)), .val (.int (20 : Int32)), .val (.ref w19)]) rfl ?_
                                            show Steps p.tables e below (T81.setTop (mkF m 34 #[.val (.int c1), .val (.ref b1), .val (.int (23 : Int32)), .val (.int (20 : Int32)), .val (.ref w19)] [])) _
                                            refine XS.goto X81.here hx rfl (pc0 := 34) (pc' := 9) rfl (hb hby own_d1_34) (by decide) (by decide) ?_
                                            show Steps p.tables e below (T81.setTop (mkF m 9 #[.val (.int c1), .val (.ref b1), .val (.int (23 : Int32)), .val (.int (20 : Int32)), .val (.ref w19)] [])) _
                                            refine XS.iloadN X81.here hx rfl (hb hby own_d1_9) rfl ?_
                                            show Steps p.tables e below (T81.setTop (mkF m 10 #[.val (.int c1), .val (.ref b1), .val (.int (23 : Int32)), .val (.int (20 : Int32)), .val (.ref w19)] [(.int (20 : Int32))])) _
                                            refine XS.iloadN X81.here hx rfl (hb hby own_d1_10) rfl ?_
                                            show Steps p.tables e below (T81.setTop (mkF m 11 #[.val (.int c1), .val (.ref b1), .val (.int (23 : Int32)), .val (.int (20 : Int32)), .val (.ref w19)] [(.int (23 : Int32)), (.int (20 : Int32))])) _
                                            refine XS.icmpNo X81.here hx rfl (hb hby own_d1_11) rfl (tlt (by decide : (20 : Int32) < (23 : Int32))).2.1 ?_
                                            show Steps p.tables e below (T81.setTop (mkF m 14 #[.val (.int c1), .val (.ref b1), .val (.int (23 : Int32)), .val (.int (20 : Int32)), .val (.ref w19)] [])) _
                                            refine XS.aloadN X81.here hx rfl (hb hby own_d1_14) rfl rfl ?_
                                            show Steps p.tables e below (T81.setTop (mkF m 15 #[.val (.int c1), .val (.ref b1), .val (.int (23 : Int32)), .val (.int (20 : Int32)), .val (.ref w19)] [(.ref b1)])) _
                                            refine XS.iloadN X81.here hx rfl (hb hby own_d1_15) rfl ?_
                                            show Steps p.tables e below (T81.setTop (mkF m 16 #[.val (.int c1), .val (.ref b1), .val (.int (23 : Int32)), .val (.int (20 : Int32)), .val (.ref w19)] [(.int (20 : Int32)), (.ref b1)])) _
                                            refine X81.aaload hx (j := (20 : Int32)) (v := (.ref w20)) (by rw [e81]; exact Ar84.1) (State.isArrayOf_alike hZ.alike Ar84.2.1) rfl Ar84.2.2 hin84 (H84.at hin84 rfl) (g := (mkF m 16 #[.val (.int c1), .val (.ref b1), .val (.int (23 : Int32)), .val (.int (20 : Int32)), .val (.ref w19)] [(.int (20 : Int32)), (.ref b1)])) rfl rfl (hb hby own_d1_16) _ ?_
                                            show Steps p.tables e below (T81.setTop (mkF m 17 #[.val (.int c1), .val (.ref b1), .val (.int (23 : Int32)), .val (.int (20 : Int32)), .val (.ref w19)] [(.ref w20)])) _
                                            refine XS.astore X81.here hx rfl (hb hby own_d1_17) rfl rfl (l' := #[.val (.int c1), .val (.ref b1), .val (.int (23 : Int32)), .val (.int (20 : Int32)), .val (.ref w20)]) rfl ?_
                                            show Steps p.tables e below (T81.setTop (mkF m 19 #[.val (.int c1), .val (.ref b1), .val (.int (23 : Int32)), .val (.int (20 : Int32)), .val (.ref w20)] [])) _
                                            refine XS.aload X81.here hx rfl (hb hby own_d1_19) rfl rfl ?_
                                            show Steps p.tables e below (T81.setTop (mkF m 21 #[.val (.int c1), .val (.ref b1), .val (.int (23 : Int32)), .val (.int (20 : Int32)), .val (.ref w20)] [(.ref w20)])) _
                                            refine st85 _ ?_
                                            show Steps p.tables e below (T85.setTop (mkF m 24 #[.val (.int c1), .val (.ref b1), .val (.int (23 : Int32)), .val (.int (20 : Int32)), .val (.ref w20)] [(.int (75 : Int32))])) _
                                            refine XS.iloadN X85.here hx rfl (hb hby own_d1_24) rfl ?_
                                            show Steps p.tables e below (T85.setTop (mkF m 25 #[.val (.int c1), .val (.ref b1), .val (.int (23 : Int32)), .val (.int (20 : Int32)), .val (.ref w20)] [(.int c1), (.int (75 : Int32))])) _
                                            exact k)
                                          by_cases hc87 : (75 : Int32) = c1
                                          · skip
                                            obtain ⟨fs, hr, hrun, hended, hW, hsame⟩ := X85.leave (v := some (.ref w20)) (fun h => by rw [Bd.returns] at h; cases h)
                                            refine ⟨_, _, pre86 _ ?_, hrun, hended, _, _, rfl, ?_, ⟨_, rfl⟩, hW, hsame.mono (by decide) (by decide)⟩
                                            · refine XS.icmpNo X85.here hx rfl (hb hby own_d1_25) rfl (teq hc87).2 ?_
                                              show Steps p.tables e below (T85.setTop (mkF m 28 #[.val (.int c1), .val (.ref b1), .val (.int (23 : Int32)), .val (.int (20 : Int32)), .val (.ref w20)] [])) _
                                              refine XS.aload X85.here hx rfl (hb hby own_d1_28) rfl rfl ?_
                                              show Steps p.tables e below (T85.setTop (mkF m 30 #[.val (.int c1), .val (.ref b1), .val (.int (23 : Int32)), .val (.int (20 : Int32)), .val (.ref w20)] [(.ref w20)])) _
                                              exact retOut X85 hx (t := (.object "com/example/vigilant_consumer/vigilantconsumer/ErrorCode")) Bd.returns rfl (Or.inr (Or.inr (Or.inr (Or.inr ⟨rfl, rfl, rfl⟩)))) (hb hby own_d1_30) hr
                                            · show own_Q_own_of Z c1 va kv w0 w1 w2 w3 w4 w5 w6 w7 w8 w9 w10 w11 w12 w13 w14 w15 w16 w17 w18 w19 w20 w21 w22 h0 n0 _ T85.heap _
                                              rw [e85]
                                              exact ⟨by rw [own_ec_neg hc7, own_ec_neg hc11, own_ec_neg hc15, own_ec_neg hc19, own_ec_neg hc23, own_ec_neg hc27, own_ec_neg hc31, own_ec_neg hc35, own_ec_neg hc39, own_ec_neg hc43, own_ec_neg hc47, own_ec_neg hc51, own_ec_neg hc55, own_ec_neg hc59, own_ec_neg hc63, own_ec_neg hc67, own_ec_neg hc71, own_ec_neg hc75, own_ec_neg hc79, own_ec_neg hc83, own_ec_pos hc87], N1, KP⟩
                                          · skip
                                            obtain ⟨cl88, Ar88, q88, S88, M88, H88, G88⟩ := id VB1
                                            have hin88 : ¬ ((21 : Int32) < 0 ∨ cl88.slots.size ≤ ((21 : Int32)).toNatClampNeg) := inb_of S88 ⟨by decide, by decide⟩
                                            obtain ⟨T89, X89, e89, st89⟩ := getF X85 hx hZ hown (host := "") (Or.inl (hw _ (List.mem_of_getElem? (i := 68) rfl))) Via.refl e85 F21 (g := (mkF m 21 #[.val (.int c1), .val (.ref b1), .val (.int (23 : Int32)), .val (.int (21 : Int32)), .val (.ref w21)] [(.ref w21)])) rfl rfl (hb hby own_d1_21)
                                            have pre90 : ∀ t, Steps p.tables e below (T89.setTop (mkF m 25 #[.val (.int c1), .val (.ref b1), .val (.int (23 : Int32)), .val (.int (21 : Int32)), .val (.ref w21)] [(.int c1), (.int (78 : Int32))])) t → Steps p.tables e below (s₁.setTop (entryFrame m #[(.int c1)] 5)) t := fun t k => pre86 t (by
                                              refine XS.icmpYes X85.here hx rfl (pc0 := 25) (pc' := 31) rfl (hb hby own_d1_25) rfl (feq hc87).2 (by decide) (by decide) ?_
                                              show Steps p.tables e below (T85.setTop (mkF m 31 #[.val (.int c1), .val (.ref b1), .val (.int (23 : Int32)), .val (.int (20 : Int32)), .val (.ref w20)] [])) _
                                              refine XS.iinc X85.here hx rfl (hb hby own_d1_31) rfl (l' := #[.val (.int c1), .val (.ref b1), .val (.int (23 : Int32)), .val (.int (21 : Int32)), .val (.ref w20)]) rfl ?_
                                              show Steps p.tables e below (T85.setTop (mkF m 34 #[.val (.int c1), .val (.ref b1), .val (.int (23 : Int32)), .val (.int (21 : Int32)), .val (.ref w20)] [])) _
                                              refine XS.goto X85.here hx rfl (pc0 := 34) (pc' := 9) rfl (hb hby own_d1_34) (by decide) (by decide) ?_
                                              show Steps p.tables e below (T85.setTop (mkF m 9 #[.val (.int c1), .val (.ref b1), .val (.int (23 : Int32)), .val (.int (21 : Int32)), .val (.ref w20)] [])) _
                                              refine XS.iloadN X85.here hx rfl (hb hby own_d1_9) rfl ?_
                                              show Steps p.tables e below (T85.setTop (mkF m 10 #[.val (.int c1), .val (.ref b1), .val (.int (23 : Int32)), .val (.int (21 : Int32)), .val (.ref w20)] [(.int (21 : Int32))])) _
                                              refine XS.iloadN X85.here hx rfl (hb hby own_d1_10) rfl ?_
                                              show Steps p.tables e below (T85.setTop (mkF m 11 #[.val (.int c1), .val (.ref b1), .val (.int (23 : Int32)), .val (.int (21 : Int32)), .val (.ref w20)] [(.int (23 : Int32)), (.int (21 : Int32))])) _
                                              refine XS.icmpNo X85.here hx rfl (hb hby own_d1_11) rfl (tlt (by decide : (21 : Int32) < (23 : Int32))).2.1 ?_
                                              show Steps p.tables e below (T85.setTop (mkF m 14 #[.val (.int c1), .val (.ref b1), .val (.int (23 : Int32)), .val (.int (21 : Int32)), .val (.ref w20)] [])) _
                                              refine XS.aloadN X85.here hx rfl (hb hby own_d1_14) rfl rfl ?_
                                              show Steps p.tables e below (T85.setTop (mkF m 15 #[.val (.int c1), .val (.ref b1), .val (.int (23 : Int32)), .val (.int (21 : Int32)), .val (.ref w20)] [(.ref b1)])) _
                                              refine XS.iloadN X85.here hx rfl (hb hby own_d1_15) rfl ?_
                                              show Steps p.tables e below (T85.setTop (mkF m 16 #[.val (.int c1), .val (.ref b1), .val (.int (23 : Int32)), .val (.int (21 : Int32)), .val (.ref w20)] [(.int (21 : Int32)), (.ref b1)])) _
                                              refine X85.aaload hx (j := (21 : Int32)) (v := (.ref w21)) (by rw [e85]; exact Ar88.1) (State.isArrayOf_alike hZ.alike Ar88.2.1) rfl Ar88.2.2 hin88 (H88.at hin88 rfl) (g := (mkF m 16 #[.val (.int c1), .val (.ref b1), .val (.int (23 : Int32)), .val (.int (21 : Int32)), .val (.ref w20)] [(.int (21 : Int32)), (.ref b1)])) rfl rfl (hb hby own_d1_16) _ ?_
                                              show Steps p.tables e below (T85.setTop (mkF m 17 #[.val (.int c1), .val (.ref b1), .val (.int (23 : Int32)), .val (.int (21 : Int32)), .val (.ref w20)] [(.ref w21)])) _
                                              refine XS.astore X85.here hx rfl (hb hby own_d1_17) rfl rfl (l' := #[.val (.int c1), .val (.ref b1), .val (.int (23 : Int32)), .val (.int (21 : Int32)), .val (.ref w21)]) rfl ?_
                                              show Steps p.tables e below (T85.setTop (mkF m 19 #[.val (.int c1), .val (.ref b1), .val (.int (23 : Int32)), .val (.int (21 : Int32)), .val (.ref w21)] [])) _
                                              refine XS.aload X85.here hx rfl (hb hby own_d1_19) rfl rfl ?_
                                              show Steps p.tables e below (T85.setTop (mkF m 21 #[.val (.int c1), .val (.ref b1), .val (.int (23 : Int32)), .val (.int (21 : Int32)), .val (.ref w21)] [(.ref w21)])) _
                                              refine st89 _ ?_
                                              show Steps p.tables e below (T89.setTop (mkF m 24 #[.val (.int c1), .val (.ref b1), .val (.int (23 : Int32)), .val (.int (21 : Int32)), .val (.ref w21)] [(.int (78 : Int32))])) _
                                              refine XS.iloadN X89.here hx rfl (hb hby own_d1_24) rfl ?_
                                              show Steps p.tables e below (T89.setTop (mkF m 25 #[.val (.int c1), .val (.ref b1), .val (.int (23 : Int32)), .val (.int (21 : Int32)), .val (.ref w21)] [(.int c1), (.int (78 : Int32))])) _
                                              exact k)
                                            by_cases hc91 : (78 : Int32) = c1
                                            · skip
                                              obtain ⟨fs, hr, hrun, hended, hW, hsame⟩ := X89.leave (v := some (.ref w21)) (fun h => by rw [Bd.returns] at h; cases h)
                                              refine ⟨_, _, pre90 _ ?_, hrun, hended, _, _, rfl, ?_, ⟨_, rfl⟩, hW, hsame.mono (by decide) (by decide)⟩
                                              · refine XS.icmpNo X89.here hx rfl (hb hby own_d1_25) rfl (teq hc91).2 ?_
                                                show Steps p.tables e below (T89.setTop (mkF m 28 #[.val (.int c1), .val (.ref b1), .val (.int (23 : Int32)), .val (.int (21 : Int32)), .val (.ref w21)] [])) _
                                                refine XS.aload X89.here hx rfl (hb hby own_d1_28) rfl rfl ?_
                                                show Steps p.tables e below (T89.setTop (mkF m 30 #[.val (.int c1), .val (.ref b1), .val (.int (23 : Int32)), .val (.int (21 : Int32)), .val (.ref w21)] [(.ref w21)])) _
                                                exact retOut X89 hx (t := (.object "com/example/vigilant_consumer/vigilantconsumer/ErrorCode")) Bd.returns rfl (Or.inr (Or.inr (Or.inr (Or.inr ⟨rfl, rfl, rfl⟩)))) (hb hby own_d1_30) hr
                                              · show own_Q_own_of Z c1 va kv w0 w1 w2 w3 w4 w5 w6 w7 w8 w9 w10 w11 w12 w13 w14 w15 w16 w17 w18 w19 w20 w21 w22 h0 n0 _ T89.heap _
                                                rw [e89]
                                                exact ⟨by rw [own_ec_neg hc7, own_ec_neg hc11, own_ec_neg hc15, own_ec_neg hc19, own_ec_neg hc23, own_ec_neg hc27, own_ec_neg hc31, own_ec_neg hc35, own_ec_neg hc39, own_ec_neg hc43, own_ec_neg hc47, own_ec_neg hc51, own_ec_neg hc55, own_ec_neg hc59, own_ec_neg hc63, own_ec_neg hc67, own_ec_neg hc71, own_ec_neg hc75, own_ec_neg hc79, own_ec_neg hc83, own_ec_neg hc87, own_ec_pos hc91], N1, KP⟩
                                            · skip
                                              obtain ⟨cl92, Ar92, q92, S92, M92, H92, G92⟩ := id VB1
                                              have hin92 : ¬ ((22 : Int32) < 0 ∨ cl92.slots.size ≤ ((22 : Int32)).toNatClampNeg) := inb_of S92 ⟨by decide, by decide⟩
                                              obtain ⟨T93, X93, e93, st93⟩ := getF X89 hx hZ hown (host := "") (Or.inl (hw _ (List.mem_of_getElem? (i := 68) rfl))) Via.refl e89 F22 (g := (mkF m 21 #[.val (.int c1), .val (.ref b1), .val (.int (23 : Int32)), .val (.int (22 : Int32)), .val (.ref w22)] [(.ref w22)])) rfl rfl (hb hby own_d1_21)
                                              have pre94 : ∀ t, Steps p.tables e below (T93.setTop (mkF m 25 #[.val (.int c1), .val (.ref b1), .val (.int (23 : Int32)), .val (.int (22 : Int32)), .val (.ref w22)] [(.int c1), (.int (79 : Int32))])) t → Steps p.tables e below (s₁.setTop (entryFrame m #[(.int c1)] 5)) t := fun t k => pre90 t (by
                                                refine XS.icmpYes X89.here hx rfl (pc0 := 25) (pc' := 31) rfl (hb hby own_d1_25) rfl (feq hc91).2 (by decide) (by decide) ?_
                                                show Steps p.tables e below (T89.setTop (mkF m 31 #[.val (.int c1), .val (.ref b1), .val (.int (23 : Int32)), .val (.int (21 : Int32)), .val (.ref w21)] [])) _
                                                refine XS.iinc X89.here hx rfl (hb hby own_d1_31) rfl (l' := #[.val (.int c1), .val (.ref b1), .val (.int (23 : Int32)), .val (.int (22 : Int32)), .val (.ref w21)]) rfl ?_
                                                show Steps p.tables e below (T89.setTop (mkF m 34 #[.val (.int c1), .val (.ref b1), .val (.int (23 : Int32)), .val (.int (22 : Int32)), .val (.ref w21)] [])) _
                                                refine XS.goto X89.here hx rfl (pc0 := 34) (pc' := 9) rfl (hb hby own_d1_34) (by decide) (by decide) ?_
                                                show Steps p.tables e below (T89.setTop (mkF m 9 #[.val (.int c1), .val (.ref b1), .val (.int (23 : Int32)), .val (.int (22 : Int32)), .val (.ref w21)] [])) _
                                                refine XS.iloadN X89.here hx rfl (hb hby own_d1_9) rfl ?_
                                                show Steps p.tables e below (T89.setTop (mkF m 10 #[.val (.int c1), .val (.ref b1), .val (.int (23 : Int32)), .val (.int (22 : Int32)), .val (.ref w21)] [(.int (22 : Int32))])) _
                                                refine XS.iloadN X89.here hx rfl (hb hby own_d1_10) rfl ?_
                                                show Steps p.tables e below (T89.setTop (mkF m 11 #[.val (.int c1), .val (.ref b1), .val (.int (23 : Int32)), .val (.int (22 : Int32)), .val (.ref w21)] [(.int (23 : Int32)), (.int (22 : Int32))])) _
                                                refine XS.icmpNo X89.here hx rfl (hb hby own_d1_11) rfl (tlt (by decide : (22 : Int32) < (23 : Int32))).2.1 ?_
                                                show Steps p.tables e below (T89.setTop (mkF m 14 #[.val (.int c1), .val (.ref b1), .val (.int (23 : Int32)), .val (.int (22 : Int32)), .val (.ref w21)] [])) _
                                                refine XS.aloadN X89.here hx rfl (hb hby own_d1_14) rfl rfl ?_
                                                show Steps p.tables e below (T89.setTop (mkF m 15 #[.val (.int c1), .val (.ref b1), .val (.int (23 : Int32)), .val (.int (22 : Int32)), .val (.ref w21)] [(.ref b1)])) _
                                                refine XS.iloadN X89.here hx rfl (hb hby own_d1_15) rfl ?_
                                                show Steps p.tables e below (T89.setTop (mkF m 16 #[.val (.int c1), .val (.ref b1), .val (.int (23 : Int32)), .val (.int (22 : Int32)), .val (.ref w21)] [(.int (22 : Int32)), (.ref b1)])) _
                                                refine X89.aaload hx (j := (22 : Int32)) (v := (.ref w22)) (by rw [e89]; exact Ar92.1) (State.isArrayOf_alike hZ.alike Ar92.2.1) rfl Ar92.2.2 hin92 (H92.at hin92 rfl) (g := (mkF m 16 #[.val (.int c1), .val (.ref b1), .val (.int (23 : Int32)), .val (.int (22 : Int32)), .val (.ref w21)] [(.int (22 : Int32)), (.ref b1)])) rfl rfl (hb hby own_d1_16) _ ?_
                                                show Steps p.tables e below (T89.setTop (mkF m 17 #[.val (.int c1), .val (.ref b1), .val (.int (23 : Int32)), .val (.int (22 : Int32)), .val (.ref w21)] [(.ref w22)])) _
                                                refine XS.astore X89.here hx rfl (hb hby own_d1_17) rfl rfl (l' := #[.val (.int c1), .val (.ref b1), .val (.int (23 : Int32)), .val (.int (22 : Int32)), .val (.ref w22)]) rfl ?_
                                                show Steps p.tables e below (T89.setTop (mkF m 19 #[.val (.int c1), .val (.ref b1), .val (.int (23 : Int32)), .val (.int (22 : Int32)), .val (.ref w22)] [])) _
                                                refine XS.aload X89.here hx rfl (hb hby own_d1_19) rfl rfl ?_
                                                show Steps p.tables e below (T89.setTop (mkF m 21 #[.val (.int c1), .val (.ref b1), .val (.int (23 : Int32)), .val (.int (22 : Int32)), .val (.ref w22)] [(.ref w22)])) _
                                                refine st93 _ ?_
                                                show Steps p.tables e below (T93.setTop (mkF m 24 #[.val (.int c1), .val (.ref b1), .val (.int (23 : Int32)), .val (.int (22 : Int32)), .val (.ref w22)] [(.int (79 : Int32))])) _
                                                refine XS.iloadN X93.here hx rfl (hb hby own_d1_24) rfl ?_
                                                show Steps p.tables e below (T93.setTop (mkF m 25 #[.val (.int c1), .val (.ref b1), .val (.int (23 : Int32)), .val (.int (22 : Int32)), .val (.ref w22)] [(.int c1), (.int (79 : Int32))])) _
                                                exact k)
                                              by_cases hc95 : (79 : Int32) = c1
                                              · skip
                                                obtain ⟨fs, hr, hrun, hended, hW, hsame⟩ := X93.leave (v := some (.ref w22)) (fun h => by rw [Bd.returns] at h; cases h)
                                                refine ⟨_, _, pre94 _ ?_, hrun, hended, _, _, rfl, ?_, ⟨_, rfl⟩, hW, hsame.mono (by decide) (by decide)⟩
                                                · refine XS.icmpNo X93.here hx rfl (hb hby own_d1_25) rfl (teq hc95).2 ?_
                                                  show Steps p.tables e below (T93.setTop (mkF m 28 #[.val (.int c1), .val (.ref b1), .val (.int (23 : Int32)), .val (.int (22 : Int32)), .val (.ref w22)] [])) _
                                                  refine XS.aload X93.here hx rfl (hb hby own_d1_28) rfl rfl ?_
                                                  show Steps p.tables e below (T93.setTop (mkF m 30 #[.val (.int c1), .val (.ref b1), .val (.int (23 : Int32)), .val (.int (22 : Int32)), .val (.ref w22)] [(.ref w22)])) _
                                                  exact retOut X93 hx (t := (.object "com/example/vigilant_consumer/vigilantconsumer/ErrorCode")) Bd.returns rfl (Or.inr (Or.inr (Or.inr (Or.inr ⟨rfl, rfl, rfl⟩)))) (hb hby own_d1_30) hr
                                                · show own_Q_own_of Z c1 va kv w0 w1 w2 w3 w4 w5 w6 w7 w8 w9 w10 w11 w12 w13 w14 w15 w16 w17 w18 w19 w20 w21 w22 h0 n0 _ T93.heap _
                                                  rw [e93]
                                                  exact ⟨by rw [own_ec_neg hc7, own_ec_neg hc11, own_ec_neg hc15, own_ec_neg hc19, own_ec_neg hc23, own_ec_neg hc27, own_ec_neg hc31, own_ec_neg hc35, own_ec_neg hc39, own_ec_neg hc43, own_ec_neg hc47, own_ec_neg hc51, own_ec_neg hc55, own_ec_neg hc59, own_ec_neg hc63, own_ec_neg hc67, own_ec_neg hc71, own_ec_neg hc75, own_ec_neg hc79, own_ec_neg hc83, own_ec_neg hc87, own_ec_neg hc91, own_ec_pos hc95], N1, KP⟩
                                              · skip
                                                obtain ⟨fs, hr, hrun, hended, hW, hsame⟩ := X93.leave (v := some .null) (fun h => by rw [Bd.returns] at h; cases h)
                                                refine ⟨_, _, pre94 _ ?_, hrun, hended, _, _, rfl, ?_, ⟨_, rfl⟩, hW, hsame.mono (by decide) (by decide)⟩
                                                · refine XS.icmpYes X93.here hx rfl (pc0 := 25) (pc' := 31) rfl (hb hby own_d1_25) rfl (feq hc95).2 (by decide) (by decide) ?_
                                                  show Steps p.tables e below (T93.setTop (mkF m 31 #[.val (.int c1), .val (.ref b1), .val (.int (23 : Int32)), .val (.int (22 : Int32)), .val (.ref w22)] [])) _
                                                  refine XS.iinc X93.here hx rfl (hb hby own_d1_31) rfl (l' := #[.val (.int c1), .val (.ref b1), .val (.int (23 : Int32)), .val (.int (23 : Int32)), .val (.ref w22)]) rfl ?_
                                                  show Steps p.tables e below (T93.setTop (mkF m 34 #[.val (.int c1), .val (.ref b1), .val (.int (23 : Int32)), .val (.int (23 : Int32)), .val (.ref w22)] [])) _
                                                  refine XS.goto X93.here hx rfl (pc0 := 34) (pc' := 9) rfl (hb hby own_d1_34) (by decide) (by decide) ?_
                                                  show Steps p.tables e below (T93.setTop (mkF m 9 #[.val (.int c1), .val (.ref b1), .val (.int (23 : Int32)), .val (.int (23 : Int32)), .val (.ref w22)] [])) _
                                                  refine XS.iloadN X93.here hx rfl (hb hby own_d1_9) rfl ?_
                                                  show Steps p.tables e below (T93.setTop (mkF m 10 #[.val (.int c1), .val (.ref b1), .val (.int (23 : Int32)), .val (.int (23 : Int32)), .val (.ref w22)] [(.int (23 : Int32))])) _
                                                  refine XS.iloadN X93.here hx rfl (hb hby own_d1_10) rfl ?_
                                                  show Steps p.tables e below (T93.setTop (mkF m 11 #[.val (.int c1), .val (.ref b1), .val (.int (23 : Int32)), .val (.int (23 : Int32)), .val (.ref w22)] [(.int (23 : Int32)), (.int (23 : Int32))])) _
                                                  refine XS.icmpYes X93.here hx rfl (pc0 := 11) (pc' := 37) rfl (hb hby own_d1_11) rfl (flt (by decide : ¬ ((23 : Int32) < (23 : Int32)))).2.1 (by decide) (by decide) ?_
                                                  show Steps p.tables e below (T93.setTop (mkF m 37 #[.val (.int c1), .val (.ref b1), .val (.int (23 : Int32)), .val (.int (23 : Int32)), .val (.ref w22)] [])) _
                                                  refine XS.aconstNull X93.here hx rfl (hb hby own_d1_37) ?_
                                                  show Steps p.tables e below (T93.setTop (mkF m 38 #[.val (.int c1), .val (.ref b1), .val (.int (23 : Int32)), .val (.int (23 : Int32)), .val (.ref w22)] [.null])) _
                                                  exact retOut X93 hx (t := (.object "com/example/vigilant_consumer/vigilantconsumer/ErrorCode")) Bd.returns rfl (Or.inr (Or.inr (Or.inr (Or.inr ⟨rfl, rfl, rfl⟩)))) (hb hby own_d1_38) hr
                                                · show own_Q_own_of Z c1 va kv w0 w1 w2 w3 w4 w5 w6 w7 w8 w9 w10 w11 w12 w13 w14 w15 w16 w17 w18 w19 w20 w21 w22 h0 n0 _ T93.heap _
                                                  rw [e93]
                                                  exact ⟨by rw [own_ec_neg hc7, own_ec_neg hc11, own_ec_neg hc15, own_ec_neg hc19, own_ec_neg hc23, own_ec_neg hc27, own_ec_neg hc31, own_ec_neg hc35, own_ec_neg hc39, own_ec_neg hc43, own_ec_neg hc47, own_ec_neg hc51, own_ec_neg hc55, own_ec_neg hc59, own_ec_neg hc63, own_ec_neg hc67, own_ec_neg hc71, own_ec_neg hc75, own_ec_neg hc79, own_ec_neg hc83, own_ec_neg hc87, own_ec_neg hc91, own_ec_neg hc95]; rfl, N1, KP⟩
theorem own_d3_0 : decode method_2_code 0 = .ok (.iload_n 0, 1) := by decide +kernel
theorem own_d3_1 : decode method_2_code 1 = .ok (.ifCond .ne 7, 3) := by decide +kernel
theorem own_d3_4 : decode method_2_code 4 = .ok (.getstatic 7, 3) := by decide +kernel
theorem own_d3_7 : decode method_2_code 7 = .ok (.areturn, 1) := by decide +kernel
theorem own_d3_8 : decode method_2_code 8 = .ok (.iload_n 0, 1) := by decide +kernel
theorem own_d3_9 : decode method_2_code 9 = .ok (.iconst 1, 1) := by decide +kernel
theorem own_d3_10 : decode method_2_code 10 = .ok (.if_icmp .ne 7, 3) := by decide +kernel
theorem own_d3_13 : decode method_2_code 13 = .ok (.getstatic 13, 3) := by decide +kernel
theorem own_d3_16 : decode method_2_code 16 = .ok (.areturn, 1) := by decide +kernel
theorem own_d3_17 : decode method_2_code 17 = .ok (.iload_n 0, 1) := by decide +kernel
theorem own_d3_18 : decode method_2_code 18 = .ok (.iconst 3, 1) := by decide +kernel
theorem own_d3_19 : decode method_2_code 19 = .ok (.if_icmp .ne 7, 3) := by decide +kernel
theorem own_d3_22 : decode method_2_code 22 = .ok (.getstatic 16, 3) := by decide +kernel
theorem own_d3_25 : decode method_2_code 25 = .ok (.areturn, 1) := by decide +kernel
theorem own_d3_26 : decode method_2_code 26 = .ok (.iload_n 0, 1) := by decide +kernel
theorem own_d3_27 : decode method_2_code 27 = .ok (.iconst 5, 1) := by decide +kernel
theorem own_d3_28 : decode method_2_code 28 = .ok (.if_icmp .ne 7, 3) := by decide +kernel
theorem own_d3_31 : decode method_2_code 31 = .ok (.getstatic 19, 3) := by decide +kernel
theorem own_d3_34 : decode method_2_code 34 = .ok (.areturn, 1) := by decide +kernel
theorem own_d3_35 : decode method_2_code 35 = .ok (.iload_n 0, 1) := by decide +kernel
theorem own_d3_36 : decode method_2_code 36 = .ok (.bipush 6, 2) := by decide +kernel
theorem own_d3_38 : decode method_2_code 38 = .ok (.if_icmp .ne 7, 3) := by decide +kernel
theorem own_d3_41 : decode method_2_code 41 = .ok (.getstatic 22, 3) := by decide +kernel
theorem own_d3_44 : decode method_2_code 44 = .ok (.areturn, 1) := by decide +kernel
theorem own_d3_45 : decode method_2_code 45 = .ok (.iload_n 0, 1) := by decide +kernel
theorem own_d3_46 : decode method_2_code 46 = .ok (.bipush 9, 2) := by decide +kernel
theorem own_d3_48 : decode method_2_code 48 = .ok (.if_icmp .ne 7, 3) := by decide +kernel
theorem own_d3_51 : decode method_2_code 51 = .ok (.getstatic 25, 3) := by decide +kernel
theorem own_d3_54 : decode method_2_code 54 = .ok (.areturn, 1) := by decide +kernel
theorem own_d3_55 : decode method_2_code 55 = .ok (.iload_n 0, 1) := by decide +kernel
theorem own_d3_56 : decode method_2_code 56 = .ok (.bipush 14, 2) := by decide +kernel
theorem own_d3_58 : decode method_2_code 58 = .ok (.if_icmp .ne 7, 3) := by decide +kernel
theorem own_d3_61 : decode method_2_code 61 = .ok (.getstatic 28, 3) := by decide +kernel
theorem own_d3_64 : decode method_2_code 64 = .ok (.areturn, 1) := by decide +kernel
theorem own_d3_65 : decode method_2_code 65 = .ok (.iload_n 0, 1) := by decide +kernel
theorem own_d3_66 : decode method_2_code 66 = .ok (.bipush 15, 2) := by decide +kernel
theorem own_d3_68 : decode method_2_code 68 = .ok (.if_icmp .ne 7, 3) := by decide +kernel
theorem own_d3_71 : decode method_2_code 71 = .ok (.getstatic 31, 3) := by decide +kernel
theorem own_d3_74 : decode method_2_code 74 = .ok (.areturn, 1) := by decide +kernel
theorem own_d3_75 : decode method_2_code 75 = .ok (.iload_n 0, 1) := by decide +kernel
theorem own_d3_76 : decode method_2_code 76 = .ok (.bipush 16, 2) := by decide +kernel
theorem own_d3_78 : decode method_2_code 78 = .ok (.if_icmp .ne 7, 3) := by decide +kernel
theorem own_d3_81 : decode method_2_code 81 = .ok (.getstatic 34, 3) := by decide +kernel
theorem own_d3_84 : decode method_2_code 84 = .ok (.areturn, 1) := by decide +kernel
theorem own_d3_85 : decode method_2_code 85 = .ok (.iload_n 0, 1) := by decide +kernel
theorem own_d3_86 : decode method_2_code 86 = .ok (.bipush 22, 2) := by decide +kernel
theorem own_d3_88 : decode method_2_code 88 = .ok (.if_icmp .ne 7, 3) := by decide +kernel
theorem own_d3_91 : decode method_2_code 91 = .ok (.getstatic 37, 3) := by decide +kernel
theorem own_d3_94 : decode method_2_code 94 = .ok (.areturn, 1) := by decide +kernel
theorem own_d3_95 : decode method_2_code 95 = .ok (.iload_n 0, 1) := by decide +kernel
theorem own_d3_96 : decode method_2_code 96 = .ok (.bipush 23, 2) := by decide +kernel
theorem own_d3_98 : decode method_2_code 98 = .ok (.if_icmp .ne 7, 3) := by decide +kernel
theorem own_d3_101 : decode method_2_code 101 = .ok (.getstatic 40, 3) := by decide +kernel
theorem own_d3_104 : decode method_2_code 104 = .ok (.areturn, 1) := by decide +kernel
theorem own_d3_105 : decode method_2_code 105 = .ok (.iload_n 0, 1) := by decide +kernel
theorem own_d3_106 : decode method_2_code 106 = .ok (.bipush 25, 2) := by decide +kernel
theorem own_d3_108 : decode method_2_code 108 = .ok (.if_icmp .ne 7, 3) := by decide +kernel
theorem own_d3_111 : decode method_2_code 111 = .ok (.getstatic 43, 3) := by decide +kernel
theorem own_d3_114 : decode method_2_code 114 = .ok (.areturn, 1) := by decide +kernel
theorem own_d3_115 : decode method_2_code 115 = .ok (.iload_n 0, 1) := by decide +kernel
theorem own_d3_116 : decode method_2_code 116 = .ok (.bipush 26, 2) := by decide +kernel
theorem own_d3_118 : decode method_2_code 118 = .ok (.if_icmp .ne 7, 3) := by decide +kernel
theorem own_d3_121 : decode method_2_code 121 = .ok (.getstatic 46, 3) := by decide +kernel
theorem own_d3_124 : decode method_2_code 124 = .ok (.areturn, 1) := by decide +kernel
theorem own_d3_125 : decode method_2_code 125 = .ok (.iload_n 0, 1) := by decide +kernel
theorem own_d3_126 : decode method_2_code 126 = .ok (.bipush 27, 2) := by decide +kernel
theorem own_d3_128 : decode method_2_code 128 = .ok (.if_icmp .ne 7, 3) := by decide +kernel
theorem own_d3_131 : decode method_2_code 131 = .ok (.getstatic 49, 3) := by decide +kernel
theorem own_d3_134 : decode method_2_code 134 = .ok (.areturn, 1) := by decide +kernel
theorem own_d3_135 : decode method_2_code 135 = .ok (.iload_n 0, 1) := by decide +kernel
theorem own_d3_136 : decode method_2_code 136 = .ok (.bipush 29, 2) := by decide +kernel
theorem own_d3_138 : decode method_2_code 138 = .ok (.if_icmp .ne 7, 3) := by decide +kernel
theorem own_d3_141 : decode method_2_code 141 = .ok (.getstatic 52, 3) := by decide +kernel
theorem own_d3_144 : decode method_2_code 144 = .ok (.areturn, 1) := by decide +kernel
theorem own_d3_145 : decode method_2_code 145 = .ok (.iload_n 0, 1) := by decide +kernel
theorem own_d3_146 : decode method_2_code 146 = .ok (.bipush 30, 2) := by decide +kernel
theorem own_d3_148 : decode method_2_code 148 = .ok (.if_icmp .ne 7, 3) := by decide +kernel
theorem own_d3_151 : decode method_2_code 151 = .ok (.getstatic 55, 3) := by decide +kernel
theorem own_d3_154 : decode method_2_code 154 = .ok (.areturn, 1) := by decide +kernel
theorem own_d3_155 : decode method_2_code 155 = .ok (.iload_n 0, 1) := by decide +kernel
theorem own_d3_156 : decode method_2_code 156 = .ok (.bipush 35, 2) := by decide +kernel
theorem own_d3_158 : decode method_2_code 158 = .ok (.if_icmp .ne 7, 3) := by decide +kernel
theorem own_d3_161 : decode method_2_code 161 = .ok (.getstatic 58, 3) := by decide +kernel
theorem own_d3_164 : decode method_2_code 164 = .ok (.areturn, 1) := by decide +kernel
theorem own_d3_165 : decode method_2_code 165 = .ok (.iload_n 0, 1) := by decide +kernel
theorem own_d3_166 : decode method_2_code 166 = .ok (.bipush 42, 2) := by decide +kernel
theorem own_d3_168 : decode method_2_code 168 = .ok (.if_icmp .ne 7, 3) := by decide +kernel
theorem own_d3_171 : decode method_2_code 171 = .ok (.getstatic 61, 3) := by decide +kernel
theorem own_d3_174 : decode method_2_code 174 = .ok (.areturn, 1) := by decide +kernel
theorem own_d3_175 : decode method_2_code 175 = .ok (.iload_n 0, 1) := by decide +kernel
theorem own_d3_176 : decode method_2_code 176 = .ok (.bipush 56, 2) := by decide +kernel
theorem own_d3_178 : decode method_2_code 178 = .ok (.if_icmp .ne 7, 3) := by decide +kernel
theorem own_d3_181 : decode method_2_code 181 = .ok (.getstatic 64, 3) := by decide +kernel
theorem own_d3_184 : decode method_2_code 184 = .ok (.areturn, 1) := by decide +kernel
theorem own_d3_185 : decode method_2_code 185 = .ok (.iload_n 0, 1) := by decide +kernel
theorem own_d3_186 : decode method_2_code 186 = .ok (.bipush 74, 2) := by decide +kernel
theorem own_d3_188 : decode method_2_code 188 = .ok (.if_icmp .ne 7, 3) := by decide +kernel
theorem own_d3_191 : decode method_2_code 191 = .ok (.getstatic 67, 3) := by decide +kernel
theorem own_d3_194 : decode method_2_code 194 = .ok (.areturn, 1) := by decide +kernel
theorem own_d3_195 : decode method_2_code 195 = .ok (.iload_n 0, 1) := by decide +kernel
theorem own_d3_196 : decode method_2_code 196 = .ok (.bipush 75, 2) := by decide +kernel
theorem own_d3_198 : decode method_2_code 198 = .ok (.if_icmp .ne 7, 3) := by decide +kernel
theorem own_d3_201 : decode method_2_code 201 = .ok (.getstatic 70, 3) := by decide +kernel
theorem own_d3_204 : decode method_2_code 204 = .ok (.areturn, 1) := by decide +kernel
theorem own_d3_205 : decode method_2_code 205 = .ok (.iload_n 0, 1) := by decide +kernel
theorem own_d3_206 : decode method_2_code 206 = .ok (.bipush 78, 2) := by decide +kernel
theorem own_d3_208 : decode method_2_code 208 = .ok (.if_icmp .ne 7, 3) := by decide +kernel
theorem own_d3_211 : decode method_2_code 211 = .ok (.getstatic 73, 3) := by decide +kernel
theorem own_d3_214 : decode method_2_code 214 = .ok (.areturn, 1) := by decide +kernel
theorem own_d3_215 : decode method_2_code 215 = .ok (.iload_n 0, 1) := by decide +kernel
theorem own_d3_216 : decode method_2_code 216 = .ok (.bipush 79, 2) := by decide +kernel
theorem own_d3_218 : decode method_2_code 218 = .ok (.if_icmp .ne 7, 3) := by decide +kernel
theorem own_d3_221 : decode method_2_code 221 = .ok (.getstatic 76, 3) := by decide +kernel
theorem own_d3_224 : decode method_2_code 224 = .ok (.areturn, 1) := by decide +kernel
theorem own_d3_225 : decode method_2_code 225 = .ok (.aconst_null, 1) := by decide +kernel
theorem own_d3_226 : decode method_2_code 226 = .ok (.areturn, 1) := by decide +kernel
theorem own_pn1 : plainName "com/example/vigilant_consumer/vigilantconsumer/ErrorCodeOfPinLaw" = true := by first | (simp [plainName, overriddenIn]; done) | decide +kernel
theorem own_ef3 (m : MethodId) (x0 : Int32) : entryFrame m #[(.int x0)] 1 = mkF m 0 #[.val (.int x0)] [] := by first | (simp [entryFrame, mkF, argsToLocals, Value.category]; done) | rfl
def own_Q_own_exp (Z : State) (c1 : Int32) (w0 : Addr) (w1 : Addr) (w2 : Addr) (w3 : Addr) (w4 : Addr) (w5 : Addr) (w6 : Addr) (w7 : Addr) (w8 : Addr) (w9 : Addr) (w10 : Addr) (w11 : Addr) (w12 : Addr) (w13 : Addr) (w14 : Addr) (w15 : Addr) (w16 : Addr) (w17 : Addr) (w18 : Addr) (w19 : Addr) (w20 : Addr) (w21 : Addr) (w22 : Addr) (h0 : Heap) (n0 : Nat) (v : Option Value) (h : Heap) (L : List Loc) : Prop := v = some (own_ec c1 [((0 : Int32), w0), ((1 : Int32), w1), ((3 : Int32), w2), ((5 : Int32), w3), ((6 : Int32), w4), ((9 : Int32), w5), ((14 : Int32), w6), ((15 : Int32), w7), ((16 : Int32), w8), ((22 : Int32), w9), ((23 : Int32), w10), ((25 : Int32), w11), ((26 : Int32), w12), ((27 : Int32), w13), ((29 : Int32), w14), ((30 : Int32), w15), ((35 : Int32), w16), ((42 : Int32), w17), ((56 : Int32), w18), ((74 : Int32), w19), ((75 : Int32), w20), ((78 : Int32), w21), ((79 : Int32), w22)]) ∧ Fr n0 L ∧ h = h0
set_option maxRecDepth 65536 in
set_option maxHeartbeats 40000000 in
theorem own_exp (l : Launch) (Z : State) (a0 : Array Value) (hw : ∀ d ∈ tables_1, d.before a0 Z = true) (ws : List Jvm.Cond) (c1 : Int32) (w0 : Addr) (w1 : Addr) (w2 : Addr) (w3 : Addr) (w4 : Addr) (w5 : Addr) (w6 : Addr) (w7 : Addr) (w8 : Addr) (w9 : Addr) (w10 : Addr) (w11 : Addr) (w12 : Addr) (w13 : Addr) (w14 : Addr) (w15 : Addr) (w16 : Addr) (w17 : Addr) (w18 : Addr) (w19 : Addr) (w20 : Addr) (w21 : Addr) (w22 : Addr) (h0 : Heap) (n0 : Nat) (Z0 : n0 ≤ h0.size) (S_0 : Sta Z h0 "com/example/vigilant_consumer/vigilantconsumer/ErrorCode" "NONE" "Lcom/example/vigilant_consumer/vigilantconsumer/ErrorCode;" (.ref w0)) (S_1 : Sta Z h0 "com/example/vigilant_consumer/vigilantconsumer/ErrorCode" "OFFSET_OUT_OF_RANGE" "Lcom/example/vigilant_consumer/vigilantconsumer/ErrorCode;" (.ref w1)) (S_2 : Sta Z h0 "com/example/vigilant_consumer/vigilantconsumer/ErrorCode" "UNKNOWN_TOPIC_OR_PARTITION" "Lcom/example/vigilant_consumer/vigilantconsumer/ErrorCode;" (.ref w2)) (S_3 : Sta Z h0 "com/example/vigilant_consumer/vigilantconsumer/ErrorCode" "LEADER_NOT_AVAILABLE" "Lcom/example/vigilant_consumer/vigilantconsumer/ErrorCode;" (.ref w3)) (S_4 : Sta Z h0 "com/example/vigilant_consumer/vigilantconsumer/ErrorCode" "NOT_LEADER_OR_FOLLOWER" "Lcom/example/vigilant_consumer/vigilantconsumer/ErrorCode;" (.ref w4)) (S_5 : Sta Z h0 "com/example/vigilant_consumer/vigilantconsumer/ErrorCode" "REPLICA_NOT_AVAILABLE" "Lcom/example/vigilant_consumer/vigilantconsumer/ErrorCode;" (.ref w5)) (S_6 : Sta Z h0 "com/example/vigilant_consumer/vigilantconsumer/ErrorCode" "COORDINATOR_LOAD_IN_PROGRESS" "Lcom/example/vigilant_consumer/vigilantconsumer/ErrorCode;" (.ref w6)) (S_7 : Sta Z h0 "com/example/vigilant_consumer/vigilantconsumer/ErrorCode" "COORDINATOR_NOT_AVAILABLE" "Lcom/example/vigilant_consumer/vigilantconsumer/ErrorCode;" (.ref w7)) (S_8 : Sta Z h0 "com/example/vigilant_consumer/vigilantconsumer/ErrorCode" "NOT_COORDINATOR" "Lcom/example/vigilant_consumer/vigilantconsumer/ErrorCode;" (.ref w8)) (S_9 : Sta Z h0 "com/example/vigilant_consumer/vigilantconsumer/ErrorCode" "ILLEGAL_GENERATION" "Lcom/example/vigilant_consumer/vigilantconsumer/ErrorCode;" (.ref w9)) (S_10 : Sta Z h0 "com/example/vigilant_consumer/vigilantconsumer/ErrorCode" "INCONSISTENT_GROUP_PROTOCOL" "Lcom/example/vigilant_consumer/vigilantconsumer/ErrorCode;" (.ref w10)) (S_11 : Sta Z h0 "com/example/vigilant_consumer/vigilantconsumer/ErrorCode" "UNKNOWN_MEMBER_ID" "Lcom/example/vigilant_consumer/vigilantconsumer/ErrorCode;" (.ref w11)) (S_12 : Sta Z h0 "com/example/vigilant_consumer/vigilantconsumer/ErrorCode" "INVALID_SESSION_TIMEOUT" "Lcom/example/vigilant_consumer/vigilantconsumer/ErrorCode;" (.ref w12)) (S_13 : Sta Z h0 "com/example/vigilant_consumer/vigilantconsumer/ErrorCode" "REBALANCE_IN_PROGRESS" "Lcom/example/vigilant_consumer/vigilantconsumer/ErrorCode;" (.ref w13)) (S_14 : Sta Z h0 "com/example/vigilant_consumer/vigilantconsumer/ErrorCode" "TOPIC_AUTHORIZATION_FAILED" "Lcom/example/vigilant_consumer/vigilantconsumer/ErrorCode;" (.ref w14)) (S_15 : Sta Z h0 "com/example/vigilant_consumer/vigilantconsumer/ErrorCode" "GROUP_AUTHORIZATION_FAILED" "Lcom/example/vigilant_consumer/vigilantconsumer/ErrorCode;" (.ref w15)) (S_16 : Sta Z h0 "com/example/vigilant_consumer/vigilantconsumer/ErrorCode" "UNSUPPORTED_VERSION" "Lcom/example/vigilant_consumer/vigilantconsumer/ErrorCode;" (.ref w16)) (S_17 : Sta Z h0 "com/example/vigilant_consumer/vigilantconsumer/ErrorCode" "INVALID_REQUEST" "Lcom/example/vigilant_consumer/vigilantconsumer/ErrorCode;" (.ref w17)) (S_18 : Sta Z h0 "com/example/vigilant_consumer/vigilantconsumer/ErrorCode" "KAFKA_STORAGE_ERROR" "Lcom/example/vigilant_consumer/vigilantconsumer/ErrorCode;" (.ref w18)) (S_19 : Sta Z h0 "com/example/vigilant_consumer/vigilantconsumer/ErrorCode" "FENCED_LEADER_EPOCH" "Lcom/example/vigilant_consumer/vigilantconsumer/ErrorCode;" (.ref w19)) (S_20 : Sta Z h0 "com/example/vigilant_consumer/vigilantconsumer/ErrorCode" "UNKNOWN_LEADER_EPOCH" "Lcom/example/vigilant_consumer/vigilantconsumer/ErrorCode;" (.ref w20)) (S_21 : Sta Z h0 "com/example/vigilant_consumer/vigilantconsumer/ErrorCode" "OFFSET_NOT_AVAILABLE" "Lcom/example/vigilant_consumer/vigilantconsumer/ErrorCode;" (.ref w21)) (S_22 : Sta Z h0 "com/example/vigilant_consumer/vigilantconsumer/ErrorCode" "MEMBER_ID_REQUIRED" "Lcom/example/vigilant_consumer/vigilantconsumer/ErrorCode;" (.ref w22)) :
    MetFree l (⟨"com/example/vigilant_consumer/vigilantconsumer/ErrorCodeOfPinLaw", "expected", "(I)Lcom/example/vigilant_consumer/vigilantconsumer/ErrorCode;"⟩ : MethodName) (head1 (Jvm.Cond.code (⟨"com/example/vigilant_consumer/vigilantconsumer/ErrorCodeOfPinLaw", "expected", "(I)Lcom/example/vigilant_consumer/vigilantconsumer/ErrorCode;"⟩ : MethodName) method_2_code 1 (some (.object "com/example/vigilant_consumer/vigilantconsumer/ErrorCode")) :: ws) ({ frames := 0, cells := 0, slots := 0, locals := 0 } : Room)) (fun as_ U => as_ = #[(.int c1)] ∧ Z.Warmed39 U.vm ∧ U.heap = h0) (fun _ _ _ _ _ => True) (fun _ U o U' => ∃ v L, o = .returned v ∧ own_Q_own_exp Z c1 w0 w1 w2 w3 w4 w5 w6 w7 w8 w9 w10 w11 w12 w13 w14 w15 w16 w17 w18 w19 w20 w21 w22 h0 n0 v U'.heap L ∧ FrameEnd U o U' L ({ frames := 0, cells := 0, slots := 0, locals := 0 } : Room).cells ({ frames := 0, cells := 0, slots := 0, locals := 0 } : Room).slots) := by
  refine MetFree.of_bodySF (plainFor_of_name own_pn1) hisR ?_
  intro p e s m args below meth c s₁ Bd hml0 hP hK
  obtain ⟨rfl, hZ, hh⟩ := hP
  have hx := Bd.exec
  have hby := Bd.bytes
  have hml : c.maxLocals = 1 := hml0
  have hown : s.vm.findClass "com/example/vigilant_consumer/vigilantconsumer/ErrorCodeOfPinLaw" = some m.cls := findClass_of_methodNamed Bd.named
  have hnm := (name_of_methodNamed Bd.named Bd.method).1
  have X0 : Stand p l e ({ frames := 0, cells := 0, slots := 0, locals := 0 } : Room) s m #[(.int c1)] below meth c s₁ [] 0 0 := Stand.of_body Bd
  have e0 : s₁.heap = h0 := by rw [← hh, Bd.state]; rfl
  have N0 := Fr.nil n0
  have pre0 : ∀ t, Steps p.tables e below (s₁.setTop (mkF m 0 #[.val (.int c1)] [])) t → Steps p.tables e below (s₁.setTop (entryFrame m #[(.int c1)] 1)) t := fun t k => castTop (own_ef3 m c1) k
  have pre1 : ∀ t, Steps p.tables e below (s₁.setTop (mkF m 1 #[.val (.int c1)] [(.int c1)])) t → Steps p.tables e below (s₁.setTop (entryFrame m #[(.int c1)] 1)) t := fun t k => pre0 t (by
    show Steps p.tables e below (s₁.setTop (mkF m 0 #[.val (.int c1)] [])) _
    refine XS.iloadN X0.here hx rfl (hb hby own_d3_0) rfl ?_
    show Steps p.tables e below (s₁.setTop (mkF m 1 #[.val (.int c1)] [(.int c1)])) _
    exact k)
  by_cases hc2 : c1 = (0 : Int32)
  · skip
    obtain ⟨T3, X3, e3, st3⟩ := getS2 X0 hx hZ hown (host := "") (Or.inl (hw _ (List.mem_of_getElem? (i := 2) rfl))) Via.refl e0 S_0 (g := (mkF m 4 #[.val (.int c1)] [])) rfl (hb hby own_d3_4)
    obtain ⟨fs, hr, hrun, hended, hW, hsame⟩ := X3.leave (v := some (.ref w0)) (fun h => by rw [Bd.returns] at h; cases h)
    refine ⟨_, _, pre1 _ ?_, hrun, hended, _, _, rfl, ?_, ⟨_, rfl⟩, hW, hsame.mono (by decide) (by decide)⟩
    · refine XS.ifNo X0.here hx rfl (hb hby own_d3_1) rfl ((if0 _ _).trans (teq hc2).2) ?_
      show Steps p.tables e below (s₁.setTop (mkF m 4 #[.val (.int c1)] [])) _
      refine st3 _ ?_
      show Steps p.tables e below (T3.setTop (mkF m 7 #[.val (.int c1)] [(.ref w0)])) _
      exact retOut X3 hx (t := (.object "com/example/vigilant_consumer/vigilantconsumer/ErrorCode")) Bd.returns rfl (Or.inr (Or.inr (Or.inr (Or.inr ⟨rfl, rfl, rfl⟩)))) (hb hby own_d3_7) hr
    · show own_Q_own_exp Z c1 w0 w1 w2 w3 w4 w5 w6 w7 w8 w9 w10 w11 w12 w13 w14 w15 w16 w17 w18 w19 w20 w21 w22 h0 n0 _ T3.heap _
      rw [e3]
      exact ⟨by rw [own_ec_pos hc2.symm], N0, rfl⟩
  · skip
    have pre4 : ∀ t, Steps p.tables e below (s₁.setTop (mkF m 10 #[.val (.int c1)] [(.int (1 : Int32)), (.int c1)])) t → Steps p.tables e below (s₁.setTop (entryFrame m #[(.int c1)] 1)) t := fun t k => pre1 t (by
      refine XS.ifYes X0.here hx rfl (pc0 := 1) (pc' := 8) rfl (hb hby own_d3_1) rfl ((if0 _ _).trans (feq hc2).2) (by decide) (by decide) ?_
      show Steps p.tables e below (s₁.setTop (mkF m 8 #[.val (.int c1)] [])) _
      refine XS.iloadN X0.here hx rfl (hb hby own_d3_8) rfl ?_
      show Steps p.tables e below (s₁.setTop (mkF m 9 #[.val (.int c1)] [(.int c1)])) _
      refine XS.iconst X0.here hx rfl (hb hby own_d3_9) ?_
      show Steps p.tables e below (s₁.setTop (mkF m 10 #[.val (.int c1)] [(.int (1 : Int32)), (.int c1)])) _
      exact k)
    by_cases hc5 : c1 = (1 : Int32)
    · skip
      obtain ⟨T6, X6, e6, st6⟩ := getS2 X0 hx hZ hown (host := "") (Or.inl (hw _ (List.mem_of_getElem? (i := 6) rfl))) Via.refl e0 S_1 (g := (mkF m 13 #[.val (.int c1)] [])) rfl (hb hby own_d3_13)
      obtain ⟨fs, hr, hrun, hended, hW, hsame⟩ := X6.leave (v := some (.ref w1)) (fun h => by rw [Bd.returns] at h; cases h)
      refine ⟨_, _, pre4 _ ?_, hrun, hended, _, _, rfl, ?_, ⟨_, rfl⟩, hW, hsame.mono (by decide) (by decide)⟩
      · refine XS.icmpNo X0.here hx rfl (hb hby own_d3_10) rfl (teq hc5).2 ?_
        show Steps p.tables e below (s₁.setTop (mkF m 13 #[.val (.int c1)] [])) _
        refine st6 _ ?_
        show Steps p.tables e below (T6.setTop (mkF m 16 #[.val (.int c1)] [(.ref w1)])) _
        exact retOut X6 hx (t := (.object "com/example/vigilant_consumer/vigilantconsumer/ErrorCode")) Bd.returns rfl (Or.inr (Or.inr (Or.inr (Or.inr ⟨rfl, rfl, rfl⟩)))) (hb hby own_d3_16) hr
      · show own_Q_own_exp Z c1 w0 w1 w2 w3 w4 w5 w6 w7 w8 w9 w10 w11 w12 w13 w14 w15 w16 w17 w18 w19 w20 w21 w22 h0 n0 _ T6.heap _
        rw [e6]
        exact ⟨by rw [own_ec_neg (Ne.symm hc2), own_ec_pos hc5.symm], N0, rfl⟩
    · skip
      have pre7 : ∀ t, Steps p.tables e below (s₁.setTop (mkF m 19 #[.val (.int c1)] [(.int (3 : Int32)), (.int c1)])) t → Steps p.tables e below (s₁.setTop (entryFrame m #[(.int c1)] 1)) t := fun t k => pre4 t (by
        refine XS.icmpYes X0.here hx rfl (pc0 := 10) (pc' := 17) rfl (hb hby own_d3_10) rfl (feq hc5).2 (by decide) (by decide) ?_
        show Steps p.tables e below (s₁.setTop (mkF m 17 #[.val (.int c1)] [])) _
        refine XS.iloadN X0.here hx rfl (hb hby own_d3_17) rfl ?_
        show Steps p.tables e below (s₁.setTop (mkF m 18 #[.val (.int c1)] [(.int c1)])) _
        refine XS.iconst X0.here hx rfl (hb hby own_d3_18) ?_
        show Steps p.tables e below (s₁.setTop (mkF m 19 #[.val (.int c1)] [(.int (3 : Int32)), (.int c1)])) _
        exact k)
      by_cases hc8 : c1 = (3 : Int32)
      · skip
        obtain ⟨T9, X9, e9, st9⟩ := getS2 X0 hx hZ hown (host := "") (Or.inl (hw _ (List.mem_of_getElem? (i := 8) rfl))) Via.refl e0 S_2 (g := (mkF m 22 #[.val (.int c1)] [])) rfl (hb hby own_d3_22)
        obtain ⟨fs, hr, hrun, hended, hW, hsame⟩ := X9.leave (v := some (.ref w2)) (fun h => by rw [Bd.returns] at h; cases h)
        refine ⟨_, _, pre7 _ ?_, hrun, hended, _, _, rfl, ?_, ⟨_, rfl⟩, hW, hsame.mono (by decide) (by decide)⟩
        · refine XS.icmpNo X0.here hx rfl (hb hby own_d3_19) rfl (teq hc8).2 ?_
          show Steps p.tables e below (s₁.setTop (mkF m 22 #[.val (.int c1)] [])) _
          refine st9 _ ?_
          show Steps p.tables e below (T9.setTop (mkF m 25 #[.val (.int c1)] [(.ref w2)])) _
          exact retOut X9 hx (t := (.object "com/example/vigilant_consumer/vigilantconsumer/ErrorCode")) Bd.returns rfl (Or.inr (Or.inr (Or.inr (Or.inr ⟨rfl, rfl, rfl⟩)))) (hb hby own_d3_25) hr
        · show own_Q_own_exp Z c1 w0 w1 w2 w3 w4 w5 w6 w7 w8 w9 w10 w11 w12 w13 w14 w15 w16 w17 w18 w19 w20 w21 w22 h0 n0 _ T9.heap _
          rw [e9]
          exact ⟨by rw [own_ec_neg (Ne.symm hc2), own_ec_neg (Ne.symm hc5), own_ec_pos hc8.symm], N0, rfl⟩
      · skip
        have pre10 : ∀ t, Steps p.tables e below (s₁.setTop (mkF m 28 #[.val (.int c1)] [(.int (5 : Int32)), (.int c1)])) t → Steps p.tables e below (s₁.setTop (entryFrame m #[(.int c1)] 1)) t := fun t k => pre7 t (by
          refine XS.icmpYes X0.here hx rfl (pc0 := 19) (pc' := 26) rfl (hb hby own_d3_19) rfl (feq hc8).2 (by decide) (by decide) ?_
          show Steps p.tables e below (s₁.setTop (mkF m 26 #[.val (.int c1)] [])) _
          refine XS.iloadN X0.here hx rfl (hb hby own_d3_26) rfl ?_
          show Steps p.tables e below (s₁.setTop (mkF m 27 #[.val (.int c1)] [(.int c1)])) _
          refine XS.iconst X0.here hx rfl (hb hby own_d3_27) ?_
          show Steps p.tables e below (s₁.setTop (mkF m 28 #[.val (.int c1)] [(.int (5 : Int32)), (.int c1)])) _
          exact k)
        by_cases hc11 : c1 = (5 : Int32)
        · skip
          obtain ⟨T12, X12, e12, st12⟩ := getS2 X0 hx hZ hown (host := "") (Or.inl (hw _ (List.mem_of_getElem? (i := 10) rfl))) Via.refl e0 S_3 (g := (mkF m 31 #[.val (.int c1)] [])) rfl (hb hby own_d3_31)
          obtain ⟨fs, hr, hrun, hended, hW, hsame⟩ := X12.leave (v := some (.ref w3)) (fun h => by rw [Bd.returns] at h; cases h)
          refine ⟨_, _, pre10 _ ?_, hrun, hended, _, _, rfl, ?_, ⟨_, rfl⟩, hW, hsame.mono (by decide) (by decide)⟩
          · refine XS.icmpNo X0.here hx rfl (hb hby own_d3_28) rfl (teq hc11).2 ?_
            show Steps p.tables e below (s₁.setTop (mkF m 31 #[.val (.int c1)] [])) _
            refine st12 _ ?_
            show Steps p.tables e below (T12.setTop (mkF m 34 #[.val (.int c1)] [(.ref w3)])) _
            exact retOut X12 hx (t := (.object "com/example/vigilant_consumer/vigilantconsumer/ErrorCode")) Bd.returns rfl (Or.inr (Or.inr (Or.inr (Or.inr ⟨rfl, rfl, rfl⟩)))) (hb hby own_d3_34) hr
          · show own_Q_own_exp Z c1 w0 w1 w2 w3 w4 w5 w6 w7 w8 w9 w10 w11 w12 w13 w14 w15 w16 w17 w18 w19 w20 w21 w22 h0 n0 _ T12.heap _
            rw [e12]
            exact ⟨by rw [own_ec_neg (Ne.symm hc2), own_ec_neg (Ne.symm hc5), own_ec_neg (Ne.symm hc8), own_ec_pos hc11.symm], N0, rfl⟩
        · skip
          have pre13 : ∀ t, Steps p.tables e below (s₁.setTop (mkF m 38 #[.val (.int c1)] [(.int (6 : Int32)), (.int c1)])) t → Steps p.tables e below (s₁.setTop (entryFrame m #[(.int c1)] 1)) t := fun t k => pre10 t (by
            refine XS.icmpYes X0.here hx rfl (pc0 := 28) (pc' := 35) rfl (hb hby own_d3_28) rfl (feq hc11).2 (by decide) (by decide) ?_
            show Steps p.tables e below (s₁.setTop (mkF m 35 #[.val (.int c1)] [])) _
            refine XS.iloadN X0.here hx rfl (hb hby own_d3_35) rfl ?_
            show Steps p.tables e below (s₁.setTop (mkF m 36 #[.val (.int c1)] [(.int c1)])) _
            refine XS.bipush X0.here hx rfl (hb hby own_d3_36) ?_
            show Steps p.tables e below (s₁.setTop (mkF m 38 #[.val (.int c1)] [(.int (6 : Int32)), (.int c1)])) _
            exact k)
          by_cases hc14 : c1 = (6 : Int32)
          · skip
            obtain ⟨T15, X15, e15, st15⟩ := getS2 X0 hx hZ hown (host := "") (Or.inl (hw _ (List.mem_of_getElem? (i := 12) rfl))) Via.refl e0 S_4 (g := (mkF m 41 #[.val (.int c1)] [])) rfl (hb hby own_d3_41)
            obtain ⟨fs, hr, hrun, hended, hW, hsame⟩ := X15.leave (v := some (.ref w4)) (fun h => by rw [Bd.returns] at h; cases h)
            refine ⟨_, _, pre13 _ ?_, hrun, hended, _, _, rfl, ?_, ⟨_, rfl⟩, hW, hsame.mono (by decide) (by decide)⟩
            · refine XS.icmpNo X0.here hx rfl (hb hby own_d3_38) rfl (teq hc14).2 ?_
              show Steps p.tables e below (s₁.setTop (mkF m 41 #[.val (.int c1)] [])) _
              refine st15 _ ?_
              show Steps p.tables e below (T15.setTop (mkF m 44 #[.val (.int c1)] [(.ref w4)])) _
              exact retOut X15 hx (t := (.object "com/example/vigilant_consumer/vigilantconsumer/ErrorCode")) Bd.returns rfl (Or.inr (Or.inr (Or.inr (Or.inr ⟨rfl, rfl, rfl⟩)))) (hb hby own_d3_44) hr
            · show own_Q_own_exp Z c1 w0 w1 w2 w3 w4 w5 w6 w7 w8 w9 w10 w11 w12 w13 w14 w15 w16 w17 w18 w19 w20 w21 w22 h0 n0 _ T15.heap _
              rw [e15]
              exact ⟨by rw [own_ec_neg (Ne.symm hc2), own_ec_neg (Ne.symm hc5), own_ec_neg (Ne.symm hc8), own_ec_neg (Ne.symm hc11), own_ec_pos hc14.symm], N0, rfl⟩
          · skip
            have pre16 : ∀ t, Steps p.tables e below (s₁.setTop (mkF m 48 #[.val (.int c1)] [(.int (9 : Int32)), (.int c1)])) t → Steps p.tables e below (s₁.setTop (entryFrame m #[(.int c1)] 1)) t := fun t k => pre13 t (by
              refine XS.icmpYes X0.here hx rfl (pc0 := 38) (pc' := 45) rfl (hb hby own_d3_38) rfl (feq hc14).2 (by decide) (by decide) ?_
              show Steps p.tables e below (s₁.setTop (mkF m 45 #[.val (.int c1)] [])) _
              refine XS.iloadN X0.here hx rfl (hb hby own_d3_45) rfl ?_
              show Steps p.tables e below (s₁.setTop (mkF m 46 #[.val (.int c1)] [(.int c1)])) _
              refine XS.bipush X0.here hx rfl (hb hby own_d3_46) ?_
              show Steps p.tables e below (s₁.setTop (mkF m 48 #[.val (.int c1)] [(.int (9 : Int32)), (.int c1)])) _
              exact k)
            by_cases hc17 : c1 = (9 : Int32)
            · skip
              obtain ⟨T18, X18, e18, st18⟩ := getS2 X0 hx hZ hown (host := "") (Or.inl (hw _ (List.mem_of_getElem? (i := 14) rfl))) Via.refl e0 S_5 (g := (mkF m 51 #[.val (.int c1)] [])) rfl (hb hby own_d3_51)
              obtain ⟨fs, hr, hrun, hended, hW, hsame⟩ := X18.leave (v := some (.ref w5)) (fun h => by rw [Bd.returns] at h; cases h)
              refine ⟨_, _, pre16 _ ?_, hrun, hended, _, _, rfl, ?_, ⟨_, rfl⟩, hW, hsame.mono (by decide) (by decide)⟩
              · refine XS.icmpNo X0.here hx rfl (hb hby own_d3_48) rfl (teq hc17).2 ?_
                show Steps p.tables e below (s₁.setTop (mkF m 51 #[.val (.int c1)] [])) _
                refine st18 _ ?_
                show Steps p.tables e below (T18.setTop (mkF m 54 #[.val (.int c1)] [(.ref w5)])) _
                exact retOut X18 hx (t := (.object "com/example/vigilant_consumer/vigilantconsumer/ErrorCode")) Bd.returns rfl (Or.inr (Or.inr (Or.inr (Or.inr ⟨rfl, rfl, rfl⟩)))) (hb hby own_d3_54) hr
              · show own_Q_own_exp Z c1 w0 w1 w2 w3 w4 w5 w6 w7 w8 w9 w10 w11 w12 w13 w14 w15 w16 w17 w18 w19 w20 w21 w22 h0 n0 _ T18.heap _
                rw [e18]
                exact ⟨by rw [own_ec_neg (Ne.symm hc2), own_ec_neg (Ne.symm hc5), own_ec_neg (Ne.symm hc8), own_ec_neg (Ne.symm hc11), own_ec_neg (Ne.symm hc14), own_ec_pos hc17.symm], N0, rfl⟩
            · skip
              have pre19 : ∀ t, Steps p.tables e below (s₁.setTop (mkF m 58 #[.val (.int c1)] [(.int (14 : Int32)), (.int c1)])) t → Steps p.tables e below (s₁.setTop (entryFrame m #[(.int c1)] 1)) t := fun t k => pre16 t (by
                refine XS.icmpYes X0.here hx rfl (pc0 := 48) (pc' := 55) rfl (hb hby own_d3_48) rfl (feq hc17).2 (by decide) (by decide) ?_
                show Steps p.tables e below (s₁.setTop (mkF m 55 #[.val (.int c1)] [])) _
                refine XS.iloadN X0.here hx rfl (hb hby own_d3_55) rfl ?_
                show Steps p.tables e below (s₁.setTop (mkF m 56 #[.val (.int c1)] [(.int c1)])) _
                refine XS.bipush X0.here hx rfl (hb hby own_d3_56) ?_
                show Steps p.tables e below (s₁.setTop (mkF m 58 #[.val (.int c1)] [(.int (14 : Int32)), (.int c1)])) _
                exact k)
              by_cases hc20 : c1 = (14 : Int32)
              · skip
                obtain ⟨T21, X21, e21, st21⟩ := getS2 X0 hx hZ hown (host := "") (Or.inl (hw _ (List.mem_of_getElem? (i := 16) rfl))) Via.refl e0 S_6 (g := (mkF m 61 #[.val (.int c1)] [])) rfl (hb hby own_d3_61)
                obtain ⟨fs, hr, hrun, hended, hW, hsame⟩ := X21.leave (v := some (.ref w6)) (fun h => by rw [Bd.returns] at h; cases h)
                refine ⟨_, _, pre19 _ ?_, hrun, hended, _, _, rfl, ?_, ⟨_, rfl⟩, hW, hsame.mono (by decide) (by decide)⟩
                · refine XS.icmpNo X0.here hx rfl (hb hby own_d3_58) rfl (teq hc20).2 ?_
                  show Steps p.tables e below (s₁.setTop (mkF m 61 #[.val (.int c1)] [])) _
                  refine st21 _ ?_
                  show Steps p.tables e below (T21.setTop (mkF m 64 #[.val (.int c1)] [(.ref w6)])) _
                  exact retOut X21 hx (t := (.object "com/example/vigilant_consumer/vigilantconsumer/ErrorCode")) Bd.returns rfl (Or.inr (Or.inr (Or.inr (Or.inr ⟨rfl, rfl, rfl⟩)))) (hb hby own_d3_64) hr
                · show own_Q_own_exp Z c1 w0 w1 w2 w3 w4 w5 w6 w7 w8 w9 w10 w11 w12 w13 w14 w15 w16 w17 w18 w19 w20 w21 w22 h0 n0 _ T21.heap _
                  rw [e21]
                  exact ⟨by rw [own_ec_neg (Ne.symm hc2), own_ec_neg (Ne.symm hc5), own_ec_neg (Ne.symm hc8), own_ec_neg (Ne.symm hc11), own_ec_neg (Ne.symm hc14), own_ec_neg (Ne.symm hc17), own_ec_pos hc20.symm], N0, rfl⟩
              · skip
                have pre22 : ∀ t, Steps p.tables e below (s₁.setTop (mkF m 68 #[.val (.int c1)] [(.int (15 : Int32)), (.int c1)])) t → Steps p.tables e below (s₁.setTop (entryFrame m #[(.int c1)] 1)) t := fun t k => pre19 t (by
                  refine XS.icmpYes X0.here hx rfl (pc0 := 58) (pc' := 65) rfl (hb hby own_d3_58) rfl (feq hc20).2 (by decide) (by decide) ?_
                  show Steps p.tables e below (s₁.setTop (mkF m 65 #[.val (.int c1)] [])) _
                  refine XS.iloadN X0.here hx rfl (hb hby own_d3_65) rfl ?_
                  show Steps p.tables e below (s₁.setTop (mkF m 66 #[.val (.int c1)] [(.int c1)])) _
                  refine XS.bipush X0.here hx rfl (hb hby own_d3_66) ?_
                  show Steps p.tables e below (s₁.setTop (mkF m 68 #[.val (.int c1)] [(.int (15 : Int32)), (.int c1)])) _
                  exact k)
                by_cases hc23 : c1 = (15 : Int32)
                · skip
                  obtain ⟨T24, X24, e24, st24⟩ := getS2 X0 hx hZ hown (host := "") (Or.inl (hw _ (List.mem_of_getElem? (i := 18) rfl))) Via.refl e0 S_7 (g := (mkF m 71 #[.val (.int c1)] [])) rfl (hb hby own_d3_71)
                  obtain ⟨fs, hr, hrun, hended, hW, hsame⟩ := X24.leave (v := some (.ref w7)) (fun h => by rw [Bd.returns] at h; cases h)
                  refine ⟨_, _, pre22 _ ?_, hrun, hended, _, _, rfl, ?_, ⟨_, rfl⟩, hW, hsame.mono (by decide) (by decide)⟩
                  · refine XS.icmpNo X0.here hx rfl (hb hby own_d3_68) rfl (teq hc23).2 ?_
                    show Steps p.tables e below (s₁.setTop (mkF m 71 #[.val (.int c1)] [])) _
                    refine st24 _ ?_
                    show Steps p.tables e below (T24.setTop (mkF m 74 #[.val (.int c1)] [(.ref w7)])) _
                    exact retOut X24 hx (t := (.object "com/example/vigilant_consumer/vigilantconsumer/ErrorCode")) Bd.returns rfl (Or.inr (Or.inr (Or.inr (Or.inr ⟨rfl, rfl, rfl⟩)))) (hb hby own_d3_74) hr
                  · show own_Q_own_exp Z c1 w0 w1 w2 w3 w4 w5 w6 w7 w8 w9 w10 w11 w12 w13 w14 w15 w16 w17 w18 w19 w20 w21 w22 h0 n0 _ T24.heap _
                    rw [e24]
                    exact ⟨by rw [own_ec_neg (Ne.symm hc2), own_ec_neg (Ne.symm hc5), own_ec_neg (Ne.symm hc8), own_ec_neg (Ne.symm hc11), own_ec_neg (Ne.symm hc14), own_ec_neg (Ne.symm hc17), own_ec_neg (Ne.symm hc20), own_ec_pos hc23.symm], N0, rfl⟩
                · skip
                  have pre25 : ∀ t, Steps p.tables e below (s₁.setTop (mkF m 78 #[.val (.int c1)] [(.int (16 : Int32)), (.int c1)])) t → Steps p.tables e below (s₁.setTop (entryFrame m #[(.int c1)] 1)) t := fun t k => pre22 t (by
                    refine XS.icmpYes X0.here hx rfl (pc0 := 68) (pc' := 75) rfl (hb hby own_d3_68) rfl (feq hc23).2 (by decide) (by decide) ?_
                    show Steps p.tables e below (s₁.setTop (mkF m 75 #[.val (.int c1)] [])) _
                    refine XS.iloadN X0.here hx rfl (hb hby own_d3_75) rfl ?_
                    show Steps p.tables e below (s₁.setTop (mkF m 76 #[.val (.int c1)] [(.int c1)])) _
                    refine XS.bipush X0.here hx rfl (hb hby own_d3_76) ?_
                    show Steps p.tables e below (s₁.setTop (mkF m 78 #[.val (.int c1)] [(.int (16 : Int32)), (.int c1)])) _
                    exact k)
                  by_cases hc26 : c1 = (16 : Int32)
                  · skip
                    obtain ⟨T27, X27, e27, st27⟩ := getS2 X0 hx hZ hown (host := "") (Or.inl (hw _ (List.mem_of_getElem? (i := 20) rfl))) Via.refl e0 S_8 (g := (mkF m 81 #[.val (.int c1)] [])) rfl (hb hby own_d3_81)
                    obtain ⟨fs, hr, hrun, hended, hW, hsame⟩ := X27.leave (v := some (.ref w8)) (fun h => by rw [Bd.returns] at h; cases h)
                    refine ⟨_, _, pre25 _ ?_, hrun, hended, _, _, rfl, ?_, ⟨_, rfl⟩, hW, hsame.mono (by decide) (by decide)⟩
                    · refine XS.icmpNo X0.here hx rfl (hb hby own_d3_78) rfl (teq hc26).2 ?_
                      show Steps p.tables e below (s₁.setTop (mkF m 81 #[.val (.int c1)] [])) _
                      refine st27 _ ?_
                      show Steps p.tables e below (T27.setTop (mkF m 84 #[.val (.int c1)] [(.ref w8)])) _
                      exact retOut X27 hx (t := (.object "com/example/vigilant_consumer/vigilantconsumer/ErrorCode")) Bd.returns rfl (Or.inr (Or.inr (Or.inr (Or.inr ⟨rfl, rfl, rfl⟩)))) (hb hby own_d3_84) hr
                    · show own_Q_own_exp Z c1 w0 w1 w2 w3 w4 w5 w6 w7 w8 w9 w10 w11 w12 w13 w14 w15 w16 w17 w18 w19 w20 w21 w22 h0 n0 _ T27.heap _
                      rw [e27]
                      exact ⟨by rw [own_ec_neg (Ne.symm hc2), own_ec_neg (Ne.symm hc5), own_ec_neg (Ne.symm hc8), own_ec_neg (Ne.symm hc11), own_ec_neg (Ne.symm hc14), own_ec_neg (Ne.symm hc17), own_ec_neg (Ne.symm hc20), own_ec_neg (Ne.symm hc23), own_ec_pos hc26.symm], N0, rfl⟩
                  · skip
                    have pre28 : ∀ t, Steps p.tables e below (s₁.setTop (mkF m 88 #[.val (.int c1)] [(.int (22 : Int32)), (.int c1)])) t → Steps p.tables e below (s₁.setTop (entryFrame m #[(.int c1)] 1)) t := fun t k => pre25 t (by
                      refine XS.icmpYes X0.here hx rfl (pc0 := 78) (pc' := 85) rfl (hb hby own_d3_78) rfl (feq hc26).2 (by decide) (by decide) ?_
                      show Steps p.tables e below (s₁.setTop (mkF m 85 #[.val (.int c1)] [])) _
                      refine XS.iloadN X0.here hx rfl (hb hby own_d3_85) rfl ?_
                      show Steps p.tables e below (s₁.setTop (mkF m 86 #[.val (.int c1)] [(.int c1)])) _
                      refine XS.bipush X0.here hx rfl (hb hby own_d3_86) ?_
                      show Steps p.tables e below (s₁.setTop (mkF m 88 #[.val (.int c1)] [(.int (22 : Int32)), (.int c1)])) _
                      exact k)
                    by_cases hc29 : c1 = (22 : Int32)
                    · skip
                      obtain ⟨T30, X30, e30, st30⟩ := getS2 X0 hx hZ hown (host := "") (Or.inl (hw _ (List.mem_of_getElem? (i := 22) rfl))) Via.refl e0 S_9 (g := (mkF m 91 #[.val (.int c1)] [])) rfl (hb hby own_d3_91)
                      obtain ⟨fs, hr, hrun, hended, hW, hsame⟩ := X30.leave (v := some (.ref w9)) (fun h => by rw [Bd.returns] at h; cases h)
                      refine ⟨_, _, pre28 _ ?_, hrun, hended, _, _, rfl, ?_, ⟨_, rfl⟩, hW, hsame.mono (by decide) (by decide)⟩
                      · refine XS.icmpNo X0.here hx rfl (hb hby own_d3_88) rfl (teq hc29).2 ?_
                        show Steps p.tables e below (s₁.setTop (mkF m 91 #[.val (.int c1)] [])) _
                        refine st30 _ ?_
                        show Steps p.tables e below (T30.setTop (mkF m 94 #[.val (.int c1)] [(.ref w9)])) _
                        exact retOut X30 hx (t := (.object "com/example/vigilant_consumer/vigilantconsumer/ErrorCode")) Bd.returns rfl (Or.inr (Or.inr (Or.inr (Or.inr ⟨rfl, rfl, rfl⟩)))) (hb hby own_d3_94) hr
                      · show own_Q_own_exp Z c1 w0 w1 w2 w3 w4 w5 w6 w7 w8 w9 w10 w11 w12 w13 w14 w15 w16 w17 w18 w19 w20 w21 w22 h0 n0 _ T30.heap _
                        rw [e30]
                        exact ⟨by rw [own_ec_neg (Ne.symm hc2), own_ec_neg (Ne.symm hc5), own_ec_neg (Ne.symm hc8), own_ec_neg (Ne.symm hc11), own_ec_neg (Ne.symm hc14), own_ec_neg (Ne.symm hc17), own_ec_neg (Ne.symm hc20), own_ec_neg (Ne.symm hc23), own_ec_neg (Ne.symm hc26), own_ec_pos hc29.symm], N0, rfl⟩
                    · skip
                      have pre31 : ∀ t, Steps p.tables e below (s₁.setTop (mkF m 98 #[.val (.int c1)] [(.int (23 : Int32)), (.int c1)])) t → Steps p.tables e below (s₁.setTop (entryFrame m #[(.int c1)] 1)) t := fun t k => pre28 t (by
                        refine XS.icmpYes X0.here hx rfl (pc0 := 88) (pc' := 95) rfl (hb hby own_d3_88) rfl (feq hc29).2 (by decide) (by decide) ?_
                        show Steps p.tables e below (s₁.setTop (mkF m 95 #[.val (.int c1)] [])) _
                        refine XS.iloadN X0.here hx rfl (hb hby own_d3_95) rfl ?_
                        show Steps p.tables e below (s₁.setTop (mkF m 96 #[.val (.int c1)] [(.int c1)])) _
                        refine XS.bipush X0.here hx rfl (hb hby own_d3_96) ?_
                        show Steps p.tables e below (s₁.setTop (mkF m 98 #[.val (.int c1)] [(.int (23 : Int32)), (.int c1)])) _
                        exact k)
                      by_cases hc32 : c1 = (23 : Int32)
                      · skip
                        obtain ⟨T33, X33, e33, st33⟩ := getS2 X0 hx hZ hown (host := "") (Or.inl (hw _ (List.mem_of_getElem? (i := 24) rfl))) Via.refl e0 S_10 (g := (mkF m 101 #[.val (.int c1)] [])) rfl (hb hby own_d3_101)
                        obtain ⟨fs, hr, hrun, hended, hW, hsame⟩ := X33.leave (v := some (.ref w10)) (fun h => by rw [Bd.returns] at h; cases h)
                        refine ⟨_, _, pre31 _ ?_, hrun, hended, _, _, rfl, ?_, ⟨_, rfl⟩, hW, hsame.mono (by decide) (by decide)⟩
                        · refine XS.icmpNo X0.here hx rfl (hb hby own_d3_98) rfl (teq hc32).2 ?_
                          show Steps p.tables e below (s₁.setTop (mkF m 101 #[.val (.int c1)] [])) _
                          refine st33 _ ?_
                          show Steps p.tables e below (T33.setTop (mkF m 104 #[.val (.int c1)] [(.ref w10)])) _
                          exact retOut X33 hx (t := (.object "com/example/vigilant_consumer/vigilantconsumer/ErrorCode")) Bd.returns rfl (Or.inr (Or.inr (Or.inr (Or.inr ⟨rfl, rfl, rfl⟩)))) (hb hby own_d3_104) hr
                        · show own_Q_own_exp Z c1 w0 w1 w2 w3 w4 w5 w6 w7 w8 w9 w10 w11 w12 w13 w14 w15 w16 w17 w18 w19 w20 w21 w22 h0 n0 _ T33.heap _
                          rw [e33]
                          exact ⟨by rw [own_ec_neg (Ne.symm hc2), own_ec_neg (Ne.symm hc5), own_ec_neg (Ne.symm hc8), own_ec_neg (Ne.symm hc11), own_ec_neg (Ne.symm hc14), own_ec_neg (Ne.symm hc17), own_ec_neg (Ne.symm hc20), own_ec_neg (Ne.symm hc23), own_ec_neg (Ne.symm hc26), own_ec_neg (Ne.symm hc29), own_ec_pos hc32.symm], N0, rfl⟩
                      · skip
                        have pre34 : ∀ t, Steps p.tables e below (s₁.setTop (mkF m 108 #[.val (.int c1)] [(.int (25 : Int32)), (.int c1)])) t → Steps p.tables e below (s₁.setTop (entryFrame m #[(.int c1)] 1)) t := fun t k => pre31 t (by
                          refine XS.icmpYes X0.here hx rfl (pc0 := 98) (pc' := 105) rfl (hb hby own_d3_98) rfl (feq hc32).2 (by decide) (by decide) ?_
                          show Steps p.tables e below (s₁.setTop (mkF m 105 #[.val (.int c1)] [])) _
                          refine XS.iloadN X0.here hx rfl (hb hby own_d3_105) rfl ?_
                          show Steps p.tables e below (s₁.setTop (mkF m 106 #[.val (.int c1)] [(.int c1)])) _
                          refine XS.bipush X0.here hx rfl (hb hby own_d3_106) ?_
                          show Steps p.tables e below (s₁.setTop (mkF m 108 #[.val (.int c1)] [(.int (25 : Int32)), (.int c1)])) _
                          exact k)
                        by_cases hc35 : c1 = (25 : Int32)
                        · skip
                          obtain ⟨T36, X36, e36, st36⟩ := getS2 X0 hx hZ hown (host := "") (Or.inl (hw _ (List.mem_of_getElem? (i := 26) rfl))) Via.refl e0 S_11 (g := (mkF m 111 #[.val (.int c1)] [])) rfl (hb hby own_d3_111)
                          obtain ⟨fs, hr, hrun, hended, hW, hsame⟩ := X36.leave (v := some (.ref w11)) (fun h => by rw [Bd.returns] at h; cases h)
                          refine ⟨_, _, pre34 _ ?_, hrun, hended, _, _, rfl, ?_, ⟨_, rfl⟩, hW, hsame.mono (by decide) (by decide)⟩
                          · refine XS.icmpNo X0.here hx rfl (hb hby own_d3_108) rfl (teq hc35).2 ?_
                            show Steps p.tables e below (s₁.setTop (mkF m 111 #[.val (.int c1)] [])) _
                            refine st36 _ ?_
                            show Steps p.tables e below (T36.setTop (mkF m 114 #[.val (.int c1)] [(.ref w11)])) _
                            exact retOut X36 hx (t := (.object "com/example/vigilant_consumer/vigilantconsumer/ErrorCode")) Bd.returns rfl (Or.inr (Or.inr (Or.inr (Or.inr ⟨rfl, rfl, rfl⟩)))) (hb hby own_d3_114) hr
                          · show own_Q_own_exp Z c1 w0 w1 w2 w3 w4 w5 w6 w7 w8 w9 w10 w11 w12 w13 w14 w15 w16 w17 w18 w19 w20 w21 w22 h0 n0 _ T36.heap _
                            rw [e36]
                            exact ⟨by rw [own_ec_neg (Ne.symm hc2), own_ec_neg (Ne.symm hc5), own_ec_neg (Ne.symm hc8), own_ec_neg (Ne.symm hc11), own_ec_neg (Ne.symm hc14), own_ec_neg (Ne.symm hc17), own_ec_neg (Ne.symm hc20), own_ec_neg (Ne.symm hc23), own_ec_neg (Ne.symm hc26), own_ec_neg (Ne.symm hc29), own_ec_neg (Ne.symm hc32), own_ec_pos hc35.symm], N0, rfl⟩
                        · skip
                          have pre37 : ∀ t, Steps p.tables e below (s₁.setTop (mkF m 118 #[.val (.int c1)] [(.int (26 : Int32)), (.int c1)])) t → Steps p.tables e below (s₁.setTop (entryFrame m #[(.int c1)] 1)) t := fun t k => pre34 t (by
                            refine XS.icmpYes X0.here hx rfl (pc0 := 108) (pc' := 115) rfl (hb hby own_d3_108) rfl (feq hc35).2 (by decide) (by decide) ?_
                            show Steps p.tables e below (s₁.setTop (mkF m 115 #[.val (.int c1)] [])) _
                            refine XS.iloadN X0.here hx rfl (hb hby own_d3_115) rfl ?_
                            show Steps p.tables e below (s₁.setTop (mkF m 116 #[.val (.int c1)] [(.int c1)])) _
                            refine XS.bipush X0.here hx rfl (hb hby own_d3_116) ?_
                            show Steps p.tables e below (s₁.setTop (mkF m 118 #[.val (.int c1)] [(.int (26 : Int32)), (.int c1)])) _
                            exact k)
                          by_cases hc38 : c1 = (26 : Int32)
                          · skip
                            obtain ⟨T39, X39, e39, st39⟩ := getS2 X0 hx hZ hown (host := "") (Or.inl (hw _ (List.mem_of_getElem? (i := 28) rfl))) Via.refl e0 S_12 (g := (mkF m 121 #[.val (.int c1)] [])) rfl (hb hby own_d3_121)
                            obtain ⟨fs, hr, hrun, hended, hW, hsame⟩ := X39.leave (v := some (.ref w12)) (fun h => by rw [Bd.returns] at h; cases h)
                            refine ⟨_, _, pre37 _ ?_, hrun, hended, _, _, rfl, ?_, ⟨_, rfl⟩, hW, hsame.mono (by decide) (by decide)⟩
                            · refine XS.icmpNo X0.here hx rfl (hb hby own_d3_118) rfl (teq hc38).2 ?_
                              show Steps p.tables e below (s₁.setTop (mkF m 121 #[.val (.int c1)] [])) _
                              refine st39 _ ?_
                              show Steps p.tables e below (T39.setTop (mkF m 124 #[.val (.int c1)] [(.ref w12)])) _
                              exact retOut X39 hx (t := (.object "com/example/vigilant_consumer/vigilantconsumer/ErrorCode")) Bd.returns rfl (Or.inr (Or.inr (Or.inr (Or.inr ⟨rfl, rfl, rfl⟩)))) (hb hby own_d3_124) hr
                            · show own_Q_own_exp Z c1 w0 w1 w2 w3 w4 w5 w6 w7 w8 w9 w10 w11 w12 w13 w14 w15 w16 w17 w18 w19 w20 w21 w22 h0 n0 _ T39.heap _
                              rw [e39]
                              exact ⟨by rw [own_ec_neg (Ne.symm hc2), own_ec_neg (Ne.symm hc5), own_ec_neg (Ne.symm hc8), own_ec_neg (Ne.symm hc11), own_ec_neg (Ne.symm hc14), own_ec_neg (Ne.symm hc17), own_ec_neg (Ne.symm hc20), own_ec_neg (Ne.symm hc23), own_ec_neg (Ne.symm hc26), own_ec_neg (Ne.symm hc29), own_ec_neg (Ne.symm hc32), own_ec_neg (Ne.symm hc35), own_ec_pos hc38.symm], N0, rfl⟩
                          · skip
                            have pre40 : ∀ t, Steps p.tables e below (s₁.setTop (mkF m 128 #[.val (.int c1)] [(.int (27 : Int32)), (.int c1)])) t → Steps p.tables e below (s₁.setTop (entryFrame m #[(.int c1)] 1)) t := fun t k => pre37 t (by
                              refine XS.icmpYes X0.here hx rfl (pc0 := 118) (pc' := 125) rfl (hb hby own_d3_118) rfl (feq hc38).2 (by decide) (by decide) ?_
                              show Steps p.tables e below (s₁.setTop (mkF m 125 #[.val (.int c1)] [])) _
                              refine XS.iloadN X0.here hx rfl (hb hby own_d3_125) rfl ?_
                              show Steps p.tables e below (s₁.setTop (mkF m 126 #[.val (.int c1)] [(.int c1)])) _
                              refine XS.bipush X0.here hx rfl (hb hby own_d3_126) ?_
                              show Steps p.tables e below (s₁.setTop (mkF m 128 #[.val (.int c1)] [(.int (27 : Int32)), (.int c1)])) _
                              exact k)
                            by_cases hc41 : c1 = (27 : Int32)
                            · skip
                              obtain ⟨T42, X42, e42, st42⟩ := getS2 X0 hx hZ hown (host := "") (Or.inl (hw _ (List.mem_of_getElem? (i := 30) rfl))) Via.refl e0 S_13 (g := (mkF m 131 #[.val (.int c1)] [])) rfl (hb hby own_d3_131)
                              obtain ⟨fs, hr, hrun, hended, hW, hsame⟩ := X42.leave (v := some (.ref w13)) (fun h => by rw [Bd.returns] at h; cases h)
                              refine ⟨_, _, pre40 _ ?_, hrun, hended, _, _, rfl, ?_, ⟨_, rfl⟩, hW, hsame.mono (by decide) (by decide)⟩
                              · refine XS.icmpNo X0.here hx rfl (hb hby own_d3_128) rfl (teq hc41).2 ?_
                                show Steps p.tables e below (s₁.setTop (mkF m 131 #[.val (.int c1)] [])) _
                                refine st42 _ ?_
                                show Steps p.tables e below (T42.setTop (mkF m 134 #[.val (.int c1)] [(.ref w13)])) _
                                exact retOut X42 hx (t := (.object "com/example/vigilant_consumer/vigilantconsumer/ErrorCode")) Bd.returns rfl (Or.inr (Or.inr (Or.inr (Or.inr ⟨rfl, rfl, rfl⟩)))) (hb hby own_d3_134) hr
                              · show own_Q_own_exp Z c1 w0 w1 w2 w3 w4 w5 w6 w7 w8 w9 w10 w11 w12 w13 w14 w15 w16 w17 w18 w19 w20 w21 w22 h0 n0 _ T42.heap _
                                rw [e42]
                                exact ⟨by rw [own_ec_neg (Ne.symm hc2), own_ec_neg (Ne.symm hc5), own_ec_neg (Ne.symm hc8), own_ec_neg (Ne.symm hc11), own_ec_neg (Ne.symm hc14), own_ec_neg (Ne.symm hc17), own_ec_neg (Ne.symm hc20), own_ec_neg (Ne.symm hc23), own_ec_neg (Ne.symm hc26), own_ec_neg (Ne.symm hc29), own_ec_neg (Ne.symm hc32), own_ec_neg (Ne.symm hc35), own_ec_neg (Ne.symm hc38), own_ec_pos hc41.symm], N0, rfl⟩
                            · skip
                              have pre43 : ∀ t, Steps p.tables e below (s₁.setTop (mkF m 138 #[.val (.int c1)] [(.int (29 : Int32)), (.int c1)])) t → Steps p.tables e below (s₁.setTop (entryFrame m #[(.int c1)] 1)) t := fun t k => pre40 t (by
                                refine XS.icmpYes X0.here hx rfl (pc0 := 128) (pc' := 135) rfl (hb hby own_d3_128) rfl (feq hc41).2 (by decide) (by decide) ?_
                                show Steps p.tables e below (s₁.setTop (mkF m 135 #[.val (.int c1)] [])) _
                                refine XS.iloadN X0.here hx rfl (hb hby own_d3_135) rfl ?_
                                show Steps p.tables e below (s₁.setTop (mkF m 136 #[.val (.int c1)] [(.int c1)])) _
                                refine XS.bipush X0.here hx rfl (hb hby own_d3_136) ?_
                                show Steps p.tables e below (s₁.setTop (mkF m 138 #[.val (.int c1)] [(.int (29 : Int32)), (.int c1)])) _
                                exact k)
                              by_cases hc44 : c1 = (29 : Int32)
                              · skip
                                obtain ⟨T45, X45, e45, st45⟩ := getS2 X0 hx hZ hown (host := "") (Or.inl (hw _ (List.mem_of_getElem? (i := 32) rfl))) Via.refl e0 S_14 (g := (mkF m 141 #[.val (.int c1)] [])) rfl (hb hby own_d3_141)
                                obtain ⟨fs, hr, hrun, hended, hW, hsame⟩ := X45.leave (v := some (.ref w14)) (fun h => by rw [Bd.returns] at h; cases h)
                                refine ⟨_, _, pre43 _ ?_, hrun, hended, _, _, rfl, ?_, ⟨_, rfl⟩, hW, hsame.mono (by decide) (by decide)⟩
                                · refine XS.icmpNo X0.here hx rfl (hb hby own_d3_138) rfl (teq hc44).2 ?_
                                  show Steps p.tables e below (s₁.setTop (mkF m 141 #[.val (.int c1)] [])) _
                                  refine st45 _ ?_
                                  show Steps p.tables e below (T45.setTop (mkF m 144 #[.val (.int c1)] [(.ref w14)])) _
                                  exact retOut X45 hx (t := (.object "com/example/vigilant_consumer/vigilantconsumer/ErrorCode")) Bd.returns rfl (Or.inr (Or.inr (Or.inr (Or.inr ⟨rfl, rfl, rfl⟩)))) (hb hby own_d3_144) hr
                                · show own_Q_own_exp Z c1 w0 w1 w2 w3 w4 w5 w6 w7 w8 w9 w10 w11 w12 w13 w14 w15 w16 w17 w18 w19 w20 w21 w22 h0 n0 _ T45.heap _
                                  rw [e45]
                                  exact ⟨by rw [own_ec_neg (Ne.symm hc2), own_ec_neg (Ne.symm hc5), own_ec_neg (Ne.symm hc8), own_ec_neg (Ne.symm hc11), own_ec_neg (Ne.symm hc14), own_ec_neg (Ne.symm hc17), own_ec_neg (Ne.symm hc20), own_ec_neg (Ne.symm hc23), own_ec_neg (Ne.symm hc26), own_ec_neg (Ne.symm hc29), own_ec_neg (Ne.symm hc32), own_ec_neg (Ne.symm hc35), own_ec_neg (Ne.symm hc38), own_ec_neg (Ne.symm hc41), own_ec_pos hc44.symm], N0, rfl⟩
                              · skip
                                have pre46 : ∀ t, Steps p.tables e below (s₁.setTop (mkF m 148 #[.val (.int c1)] [(.int (30 : Int32)), (.int c1)])) t → Steps p.tables e below (s₁.setTop (entryFrame m #[(.int c1)] 1)) t := fun t k => pre43 t (by
                                  refine XS.icmpYes X0.here hx rfl (pc0 := 138) (pc' := 145) rfl (hb hby own_d3_138) rfl (feq hc44).2 (by decide) (by decide) ?_
                                  show Steps p.tables e below (s₁.setTop (mkF m 145 #[.val (.int c1)] [])) _
                                  refine XS.iloadN X0.here hx rfl (hb hby own_d3_145) rfl ?_
                                  show Steps p.tables e below (s₁.setTop (mkF m 146 #[.val (.int c1)] [(.int c1)])) _
                                  refine XS.bipush X0.here hx rfl (hb hby own_d3_146) ?_
                                  show Steps p.tables e below (s₁.setTop (mkF m 148 #[.val (.int c1)] [(.int (30 : Int32)), (.int c1)])) _
                                  exact k)
                                by_cases hc47 : c1 = (30 : Int32)
                                · skip
                                  obtain ⟨T48, X48, e48, st48⟩ := getS2 X0 hx hZ hown (host := "") (Or.inl (hw _ (List.mem_of_getElem? (i := 34) rfl))) Via.refl e0 S_15 (g := (mkF m 151 #[.val (.int c1)] [])) rfl (hb hby own_d3_151)
                                  obtain ⟨fs, hr, hrun, hended, hW, hsame⟩ := X48.leave (v := some (.ref w15)) (fun h => by rw [Bd.returns] at h; cases h)
                                  refine ⟨_, _, pre46 _ ?_, hrun, hended, _, _, rfl, ?_, ⟨_, rfl⟩, hW, hsame.mono (by decide) (by decide)⟩
                                  · refine XS.icmpNo X0.here hx rfl (hb hby own_d3_148) rfl (teq hc47).2 ?_
                                    show Steps p.tables e below (s₁.setTop (mkF m 151 #[.val (.int c1)] [])) _
                                    refine st48 _ ?_
                                    show Steps p.tables e below (T48.setTop (mkF m 154 #[.val (.int c1)] [(.ref w15)])) _
                                    exact retOut X48 hx (t := (.object "com/example/vigilant_consumer/vigilantconsumer/ErrorCode")) Bd.returns rfl (Or.inr (Or.inr (Or.inr (Or.inr ⟨rfl, rfl, rfl⟩)))) (hb hby own_d3_154) hr
                                  · show own_Q_own_exp Z c1 w0 w1 w2 w3 w4 w5 w6 w7 w8 w9 w10 w11 w12 w13 w14 w15 w16 w17 w18 w19 w20 w21 w22 h0 n0 _ T48.heap _
                                    rw [e48]
                                    exact ⟨by rw [own_ec_neg (Ne.symm hc2), own_ec_neg (Ne.symm hc5), own_ec_neg (Ne.symm hc8), own_ec_neg (Ne.symm hc11), own_ec_neg (Ne.symm hc14), own_ec_neg (Ne.symm hc17), own_ec_neg (Ne.symm hc20), own_ec_neg (Ne.symm hc23), own_ec_neg (Ne.symm hc26), own_ec_neg (Ne.symm hc29), own_ec_neg (Ne.symm hc32), own_ec_neg (Ne.symm hc35), own_ec_neg (Ne.symm hc38), own_ec_neg (Ne.symm hc41), own_ec_neg (Ne.symm hc44), own_ec_pos hc47.symm], N0, rfl⟩
                                · skip
                                  have pre49 : ∀ t, Steps p.tables e below (s₁.setTop (mkF m 158 #[.val (.int c1)] [(.int (35 : Int32)), (.int c1)])) t → Steps p.tables e below (s₁.setTop (entryFrame m #[(.int c1)] 1)) t := fun t k => pre46 t (by
                                    refine XS.icmpYes X0.here hx rfl (pc0 := 148) (pc' := 155) rfl (hb hby own_d3_148) rfl (feq hc47).2 (by decide) (by decide) ?_
                                    show Steps p.tables e below (s₁.setTop (mkF m 155 #[.val (.int c1)] [])) _
                                    refine XS.iloadN X0.here hx rfl (hb hby own_d3_155) rfl ?_
                                    show Steps p.tables e below (s₁.setTop (mkF m 156 #[.val (.int c1)] [(.int c1)])) _
                                    refine XS.bipush X0.here hx rfl (hb hby own_d3_156) ?_
                                    show Steps p.tables e below (s₁.setTop (mkF m 158 #[.val (.int c1)] [(.int (35 : Int32)), (.int c1)])) _
                                    exact k)
                                  by_cases hc50 : c1 = (35 : Int32)
                                  · skip
                                    obtain ⟨T51, X51, e51, st51⟩ := getS2 X0 hx hZ hown (host := "") (Or.inl (hw _ (List.mem_of_getElem? (i := 36) rfl))) Via.refl e0 S_16 (g := (mkF m 161 #[.val (.int c1)] [])) rfl (hb hby own_d3_161)
                                    obtain ⟨fs, hr, hrun, hended, hW, hsame⟩ := X51.leave (v := some (.ref w16)) (fun h => by rw [Bd.returns] at h; cases h)
                                    refine ⟨_, _, pre49 _ ?_, hrun, hended, _, _, rfl, ?_, ⟨_, rfl⟩, hW, hsame.mono (by decide) (by decide)⟩
                                    · refine XS.icmpNo X0.here hx rfl (hb hby own_d3_158) rfl (teq hc50).2 ?_
                                      show Steps p.tables e below (s₁.setTop (mkF m 161 #[.val (.int c1)] [])) _
                                      refine st51 _ ?_
                                      show Steps p.tables e below (T51.setTop (mkF m 164 #[.val (.int c1)] [(.ref w16)])) _
                                      exact retOut X51 hx (t := (.object "com/example/vigilant_consumer/vigilantconsumer/ErrorCode")) Bd.returns rfl (Or.inr (Or.inr (Or.inr (Or.inr ⟨rfl, rfl, rfl⟩)))) (hb hby own_d3_164) hr
                                    · show own_Q_own_exp Z c1 w0 w1 w2 w3 w4 w5 w6 w7 w8 w9 w10 w11 w12 w13 w14 w15 w16 w17 w18 w19 w20 w21 w22 h0 n0 _ T51.heap _
                                      rw [e51]
                                      exact ⟨by rw [own_ec_neg (Ne.symm hc2), own_ec_neg (Ne.symm hc5), own_ec_neg (Ne.symm hc8), own_ec_neg (Ne.symm hc11), own_ec_neg (Ne.symm hc14), own_ec_neg (Ne.symm hc17), own_ec_neg (Ne.symm hc20), own_ec_neg (Ne.symm hc23), own_ec_neg (Ne.symm hc26), own_ec_neg (Ne.symm hc29), own_ec_neg (Ne.symm hc32), own_ec_neg (Ne.symm hc35), own_ec_neg (Ne.symm hc38), own_ec_neg (Ne.symm hc41), own_ec_neg (Ne.symm hc44), own_ec_neg (Ne.symm hc47), own_ec_pos hc50.symm], N0, rfl⟩
                                  · skip
                                    have pre52 : ∀ t, Steps p.tables e below (s₁.setTop (mkF m 168 #[.val (.int c1)] [(.int (42 : Int32)), (.int c1)])) t → Steps p.tables e below (s₁.setTop (entryFrame m #[(.int c1)] 1)) t := fun t k => pre49 t (by
                                      refine XS.icmpYes X0.here hx rfl (pc0 := 158) (pc' := 165) rfl (hb hby own_d3_158) rfl (feq hc50).2 (by decide) (by decide) ?_
                                      show Steps p.tables e below (s₁.setTop (mkF m 165 #[.val (.int c1)] [])) _
                                      refine XS.iloadN X0.here hx rfl (hb hby own_d3_165) rfl ?_
                                      show Steps p.tables e below (s₁.setTop (mkF m 166 #[.val (.int c1)] [(.int c1)])) _
                                      refine XS.bipush X0.here hx rfl (hb hby own_d3_166) ?_
                                      show Steps p.tables e below (s₁.setTop (mkF m 168 #[.val (.int c1)] [(.int (42 : Int32)), (.int c1)])) _
                                      exact k)
                                    by_cases hc53 : c1 = (42 : Int32)
                                    · skip
                                      obtain ⟨T54, X54, e54, st54⟩ := getS2 X0 hx hZ hown (host := "") (Or.inl (hw _ (List.mem_of_getElem? (i := 38) rfl))) Via.refl e0 S_17 (g := (mkF m 171 #[.val (.int c1)] [])) rfl (hb hby own_d3_171)
                                      obtain ⟨fs, hr, hrun, hended, hW, hsame⟩ := X54.leave (v := some (.ref w17)) (fun h => by rw [Bd.returns] at h; cases h)
                                      refine ⟨_, _, pre52 _ ?_, hrun, hended, _, _, rfl, ?_, ⟨_, rfl⟩, hW, hsame.mono (by decide) (by decide)⟩
                                      · refine XS.icmpNo X0.here hx rfl (hb hby own_d3_168) rfl (teq hc53).2 ?_
                                        show Steps p.tables e below (s₁.setTop (mkF m 171 #[.val (.int c1)] [])) _
                                        refine st54 _ ?_
                                        show Steps p.tables e below (T54.setTop (mkF m 174 #[.val (.int c1)] [(.ref w17)])) _
                                        exact retOut X54 hx (t := (.object "com/example/vigilant_consumer/vigilantconsumer/ErrorCode")) Bd.returns rfl (Or.inr (Or.inr (Or.inr (Or.inr ⟨rfl, rfl, rfl⟩)))) (hb hby own_d3_174) hr
                                      · show own_Q_own_exp Z c1 w0 w1 w2 w3 w4 w5 w6 w7 w8 w9 w10 w11 w12 w13 w14 w15 w16 w17 w18 w19 w20 w21 w22 h0 n0 _ T54.heap _
                                        rw [e54]
                                        exact ⟨by rw [own_ec_neg (Ne.symm hc2), own_ec_neg (Ne.symm hc5), own_ec_neg (Ne.symm hc8), own_ec_neg (Ne.symm hc11), own_ec_neg (Ne.symm hc14), own_ec_neg (Ne.symm hc17), own_ec_neg (Ne.symm hc20), own_ec_neg (Ne.symm hc23), own_ec_neg (Ne.symm hc26), own_ec_neg (Ne.symm hc29), own_ec_neg (Ne.symm hc32), own_ec_neg (Ne.symm hc35), own_ec_neg (Ne.symm hc38), own_ec_neg (Ne.symm hc41), own_ec_neg (Ne.symm hc44), own_ec_neg (Ne.symm hc47), own_ec_neg (Ne.symm hc50), own_ec_pos hc53.symm], N0, rfl⟩
                                    · skip
                                      have pre55 : ∀ t, Steps p.tables e below (s₁.setTop (mkF m 178 #[.val (.int c1)] [(.int (56 : Int32)), (.int c1)])) t → Steps p.tables e below (s₁.setTop (entryFrame m #[(.int c1)] 1)) t := fun t k => pre52 t (by
                                        refine XS.icmpYes X0.here hx rfl (pc0 := 168) (pc' := 175) rfl (hb hby own_d3_168) rfl (feq hc53).2 (by decide) (by decide) ?_
                                        show Steps p.tables e below (s₁.setTop (mkF m 175 #[.val (.int c1)] [])) _
                                        refine XS.iloadN X0.here hx rfl (hb hby own_d3_175) rfl ?_
                                        show Steps p.tables e below (s₁.setTop (mkF m 176 #[.val (.int c1)] [(.int c1)])) _
                                        refine XS.bipush X0.here hx rfl (hb hby own_d3_176) ?_
                                        show Steps p.tables e below (s₁.setTop (mkF m 178 #[.val (.int c1)] [(.int (56 : Int32)), (.int c1)])) _
                                        exact k)
                                      by_cases hc56 : c1 = (56 : Int32)
                                      · skip
                                        obtain ⟨T57, X57, e57, st57⟩ := getS2 X0 hx hZ hown (host := "") (Or.inl (hw _ (List.mem_of_getElem? (i := 40) rfl))) Via.refl e0 S_18 (g := (mkF m 181 #[.val (.int c1)] [])) rfl (hb hby own_d3_181)
                                        obtain ⟨fs, hr, hrun, hended, hW, hsame⟩ := X57.leave (v := some (.ref w18)) (fun h => by rw [Bd.returns] at h; cases h)
                                        refine ⟨_, _, pre55 _ ?_, hrun, hended, _, _, rfl, ?_, ⟨_, rfl⟩, hW, hsame.mono (by decide) (by decide)⟩
                                        · refine XS.icmpNo X0.here hx rfl (hb hby own_d3_178) rfl (teq hc56).2 ?_
                                          show Steps p.tables e below (s₁.setTop (mkF m 181 #[.val (.int c1)] [])) _
                                          refine st57 _ ?_
                                          show Steps p.tables e below (T57.setTop (mkF m 184 #[.val (.int c1)] [(.ref w18)])) _
                                          exact retOut X57 hx (t := (.object "com/example/vigilant_consumer/vigilantconsumer/ErrorCode")) Bd.returns rfl (Or.inr (Or.inr (Or.inr (Or.inr ⟨rfl, rfl, rfl⟩)))) (hb hby own_d3_184) hr
                                        · show own_Q_own_exp Z c1 w0 w1 w2 w3 w4 w5 w6 w7 w8 w9 w10 w11 w12 w13 w14 w15 w16 w17 w18 w19 w20 w21 w22 h0 n0 _ T57.heap _
                                          rw [e57]
                                          exact ⟨by rw [own_ec_neg (Ne.symm hc2), own_ec_neg (Ne.symm hc5), own_ec_neg (Ne.symm hc8), own_ec_neg (Ne.symm hc11), own_ec_neg (Ne.symm hc14), own_ec_neg (Ne.symm hc17), own_ec_neg (Ne.symm hc20), own_ec_neg (Ne.symm hc23), own_ec_neg (Ne.symm hc26), own_ec_neg (Ne.symm hc29), own_ec_neg (Ne.symm hc32), own_ec_neg (Ne.symm hc35), own_ec_neg (Ne.symm hc38), own_ec_neg (Ne.symm hc41), own_ec_neg (Ne.symm hc44), own_ec_neg (Ne.symm hc47), own_ec_neg (Ne.symm hc50), own_ec_neg (Ne.symm hc53), own_ec_pos hc56.symm], N0, rfl⟩
                                      · skip
                                        have pre58 : ∀ t, Steps p.tables e below (s₁.setTop (mkF m 188 #[.val (.int c1)] [(.int (74 : Int32)), (.int c1)])) t → Steps p.tables e below (s₁.setTop (entryFrame m #[(.int c1)] 1)) t := fun t k => pre55 t (by
                                          refine XS.icmpYes X0.here hx rfl (pc0 := 178) (pc' := 185) rfl (hb hby own_d3_178) rfl (feq hc56).2 (by decide) (by decide) ?_
                                          show Steps p.tables e below (s₁.setTop (mkF m 185 #[.val (.int c1)] [])) _
                                          refine XS.iloadN X0.here hx rfl (hb hby own_d3_185) rfl ?_
                                          show Steps p.tables e below (s₁.setTop (mkF m 186 #[.val (.int c1)] [(.int c1)])) _
                                          refine XS.bipush X0.here hx rfl (hb hby own_d3_186) ?_
                                          show Steps p.tables e below (s₁.setTop (mkF m 188 #[.val (.int c1)] [(.int (74 : Int32)), (.int c1)])) _
                                          exact k)
                                        by_cases hc59 : c1 = (74 : Int32)
                                        · skip
                                          obtain ⟨T60, X60, e60, st60⟩ := getS2 X0 hx hZ hown (host := "") (Or.inl (hw _ (List.mem_of_getElem? (i := 42) rfl))) Via.refl e0 S_19 (g := (mkF m 191 #[.val (.int c1)] [])) rfl (hb hby own_d3_191)
                                          obtain ⟨fs, hr, hrun, hended, hW, hsame⟩ := X60.leave (v := some (.ref w19)) (fun h => by rw [Bd.returns] at h; cases h)
                                          refine ⟨_, _, pre58 _ ?_, hrun, hended, _, _, rfl, ?_, ⟨_, rfl⟩, hW, hsame.mono (by decide) (by decide)⟩
                                          · refine XS.icmpNo X0.here hx rfl (hb hby own_d3_188) rfl (teq hc59).2 ?_
                                            show Steps p.tables e below (s₁.setTop (mkF m 191 #[.val (.int c1)] [])) _
                                            refine st60 _ ?_
                                            show Steps p.tables e below (T60.setTop (mkF m 194 #[.val (.int c1)] [(.ref w19)])) _
                                            exact retOut X60 hx (t := (.object "com/example/vigilant_consumer/vigilantconsumer/ErrorCode")) Bd.returns rfl (Or.inr (Or.inr (Or.inr (Or.inr ⟨rfl, rfl, rfl⟩)))) (hb hby own_d3_194) hr
                                          · show own_Q_own_exp Z c1 w0 w1 w2 w3 w4 w5 w6 w7 w8 w9 w10 w11 w12 w13 w14 w15 w16 w17 w18 w19 w20 w21 w22 h0 n0 _ T60.heap _
                                            rw [e60]
                                            exact ⟨by rw [own_ec_neg (Ne.symm hc2), own_ec_neg (Ne.symm hc5), own_ec_neg (Ne.symm hc8), own_ec_neg (Ne.symm hc11), own_ec_neg (Ne.symm hc14), own_ec_neg (Ne.symm hc17), own_ec_neg (Ne.symm hc20), own_ec_neg (Ne.symm hc23), own_ec_neg (Ne.symm hc26), own_ec_neg (Ne.symm hc29), own_ec_neg (Ne.symm hc32), own_ec_neg (Ne.symm hc35), own_ec_neg (Ne.symm hc38), own_ec_neg (Ne.symm hc41), own_ec_neg (Ne.symm hc44), own_ec_neg (Ne.symm hc47), own_ec_neg (Ne.symm hc50), own_ec_neg (Ne.symm hc53), own_ec_neg (Ne.symm hc56), own_ec_pos hc59.symm], N0, rfl⟩
                                        · skip
                                          have pre61 : ∀ t, Steps p.tables e below (s₁.setTop (mkF m 198 #[.val (.int c1)] [(.int (75 : Int32)), (.int c1)])) t → Steps p.tables e below (s₁.setTop (entryFrame m #[(.int c1)] 1)) t := fun t k => pre58 t (by
                                            refine XS.icmpYes X0.here hx rfl (pc0 := 188) (pc' := 195) rfl (hb hby own_d3_188) rfl (feq hc59).2 (by decide) (by decide) ?_
                                            show Steps p.tables e below (s₁.setTop (mkF m 195 #[.val (.int c1)] [])) _
                                            refine XS.iloadN X0.here hx rfl (hb hby own_d3_195) rfl ?_
                                            show Steps p.tables e below (s₁.setTop (mkF m 196 #[.val (.int c1)] [(.int c1)])) _
                                            refine XS.bipush X0.here hx rfl (hb hby own_d3_196) ?_
                                            show Steps p.tables e below (s₁.setTop (mkF m 198 #[.val (.int c1)] [(.int (75 : Int32)), (.int c1)])) _
                                            exact k)
                                          by_cases hc62 : c1 = (75 : Int32)
                                          · skip
                                            obtain ⟨T63, X63, e63, st63⟩ := getS2 X0 hx hZ hown (host := "") (Or.inl (hw _ (List.mem_of_getElem? (i := 44) rfl))) Via.refl e0 S_20 (g := (mkF m 201 #[.val (.int c1)] [])) rfl (hb hby own_d3_201)
                                            obtain ⟨fs, hr, hrun, hended, hW, hsame⟩ := X63.leave (v := some (.ref w20)) (fun h => by rw [Bd.returns] at h; cases h)
                                            refine ⟨_, _, pre61 _ ?_, hrun, hended, _, _, rfl, ?_, ⟨_, rfl⟩, hW, hsame.mono (by decide) (by decide)⟩
                                            · refine XS.icmpNo X0.here hx rfl (hb hby own_d3_198) rfl (teq hc62).2 ?_
                                              show Steps p.tables e below (s₁.setTop (mkF m 201 #[.val (.int c1)] [])) _
                                              refine st63 _ ?_
                                              show Steps p.tables e below (T63.setTop (mkF m 204 #[.val (.int c1)] [(.ref w20)])) _
                                              exact retOut X63 hx (t := (.object "com/example/vigilant_consumer/vigilantconsumer/ErrorCode")) Bd.returns rfl (Or.inr (Or.inr (Or.inr (Or.inr ⟨rfl, rfl, rfl⟩)))) (hb hby own_d3_204) hr
                                            · show own_Q_own_exp Z c1 w0 w1 w2 w3 w4 w5 w6 w7 w8 w9 w10 w11 w12 w13 w14 w15 w16 w17 w18 w19 w20 w21 w22 h0 n0 _ T63.heap _
                                              rw [e63]
                                              exact ⟨by rw [own_ec_neg (Ne.symm hc2), own_ec_neg (Ne.symm hc5), own_ec_neg (Ne.symm hc8), own_ec_neg (Ne.symm hc11), own_ec_neg (Ne.symm hc14), own_ec_neg (Ne.symm hc17), own_ec_neg (Ne.symm hc20), own_ec_neg (Ne.symm hc23), own_ec_neg (Ne.symm hc26), own_ec_neg (Ne.symm hc29), own_ec_neg (Ne.symm hc32), own_ec_neg (Ne.symm hc35), own_ec_neg (Ne.symm hc38), own_ec_neg (Ne.symm hc41), own_ec_neg (Ne.symm hc44), own_ec_neg (Ne.symm hc47), own_ec_neg (Ne.symm hc50), own_ec_neg (Ne.symm hc53), own_ec_neg (Ne.symm hc56), own_ec_neg (Ne.symm hc59), own_ec_pos hc62.symm], N0, rfl⟩
                                          · skip
                                            have pre64 : ∀ t, Steps p.tables e below (s₁.setTop (mkF m 208 #[.val (.int c1)] [(.int (78 : Int32)), (.int c1)])) t → Steps p.tables e below (s₁.setTop (entryFrame m #[(.int c1)] 1)) t := fun t k => pre61 t (by
                                              refine XS.icmpYes X0.here hx rfl (pc0 := 198) (pc' := 205) rfl (hb hby own_d3_198) rfl (feq hc62).2 (by decide) (by decide) ?_
                                              show Steps p.tables e below (s₁.setTop (mkF m 205 #[.val (.int c1)] [])) _
                                              refine XS.iloadN X0.here hx rfl (hb hby own_d3_205) rfl ?_
                                              show Steps p.tables e below (s₁.setTop (mkF m 206 #[.val (.int c1)] [(.int c1)])) _
                                              refine XS.bipush X0.here hx rfl (hb hby own_d3_206) ?_
                                              show Steps p.tables e below (s₁.setTop (mkF m 208 #[.val (.int c1)] [(.int (78 : Int32)), (.int c1)])) _
                                              exact k)
                                            by_cases hc65 : c1 = (78 : Int32)
                                            · skip
                                              obtain ⟨T66, X66, e66, st66⟩ := getS2 X0 hx hZ hown (host := "") (Or.inl (hw _ (List.mem_of_getElem? (i := 46) rfl))) Via.refl e0 S_21 (g := (mkF m 211 #[.val (.int c1)] [])) rfl (hb hby own_d3_211)
                                              obtain ⟨fs, hr, hrun, hended, hW, hsame⟩ := X66.leave (v := some (.ref w21)) (fun h => by rw [Bd.returns] at h; cases h)
                                              refine ⟨_, _, pre64 _ ?_, hrun, hended, _, _, rfl, ?_, ⟨_, rfl⟩, hW, hsame.mono (by decide) (by decide)⟩
                                              · refine XS.icmpNo X0.here hx rfl (hb hby own_d3_208) rfl (teq hc65).2 ?_
                                                show Steps p.tables e below (s₁.setTop (mkF m 211 #[.val (.int c1)] [])) _
                                                refine st66 _ ?_
                                                show Steps p.tables e below (T66.setTop (mkF m 214 #[.val (.int c1)] [(.ref w21)])) _
                                                exact retOut X66 hx (t := (.object "com/example/vigilant_consumer/vigilantconsumer/ErrorCode")) Bd.returns rfl (Or.inr (Or.inr (Or.inr (Or.inr ⟨rfl, rfl, rfl⟩)))) (hb hby own_d3_214) hr
                                              · show own_Q_own_exp Z c1 w0 w1 w2 w3 w4 w5 w6 w7 w8 w9 w10 w11 w12 w13 w14 w15 w16 w17 w18 w19 w20 w21 w22 h0 n0 _ T66.heap _
                                                rw [e66]
                                                exact ⟨by rw [own_ec_neg (Ne.symm hc2), own_ec_neg (Ne.symm hc5), own_ec_neg (Ne.symm hc8), own_ec_neg (Ne.symm hc11), own_ec_neg (Ne.symm hc14), own_ec_neg (Ne.symm hc17), own_ec_neg (Ne.symm hc20), own_ec_neg (Ne.symm hc23), own_ec_neg (Ne.symm hc26), own_ec_neg (Ne.symm hc29), own_ec_neg (Ne.symm hc32), own_ec_neg (Ne.symm hc35), own_ec_neg (Ne.symm hc38), own_ec_neg (Ne.symm hc41), own_ec_neg (Ne.symm hc44), own_ec_neg (Ne.symm hc47), own_ec_neg (Ne.symm hc50), own_ec_neg (Ne.symm hc53), own_ec_neg (Ne.symm hc56), own_ec_neg (Ne.symm hc59), own_ec_neg (Ne.symm hc62), own_ec_pos hc65.symm], N0, rfl⟩
                                            · skip
                                              have pre67 : ∀ t, Steps p.tables e below (s₁.setTop (mkF m 218 #[.val (.int c1)] [(.int (79 : Int32)), (.int c1)])) t → Steps p.tables e below (s₁.setTop (entryFrame m #[(.int c1)] 1)) t := fun t k => pre64 t (by
                                                refine XS.icmpYes X0.here hx rfl (pc0 := 208) (pc' := 215) rfl (hb hby own_d3_208) rfl (feq hc65).2 (by decide) (by decide) ?_
                                                show Steps p.tables e below (s₁.setTop (mkF m 215 #[.val (.int c1)] [])) _
                                                refine XS.iloadN X0.here hx rfl (hb hby own_d3_215) rfl ?_
                                                show Steps p.tables e below (s₁.setTop (mkF m 216 #[.val (.int c1)] [(.int c1)])) _
                                                refine XS.bipush X0.here hx rfl (hb hby own_d3_216) ?_
                                                show Steps p.tables e below (s₁.setTop (mkF m 218 #[.val (.int c1)] [(.int (79 : Int32)), (.int c1)])) _
                                                exact k)
                                              by_cases hc68 : c1 = (79 : Int32)
                                              · skip
                                                obtain ⟨T69, X69, e69, st69⟩ := getS2 X0 hx hZ hown (host := "") (Or.inl (hw _ (List.mem_of_getElem? (i := 48) rfl))) Via.refl e0 S_22 (g := (mkF m 221 #[.val (.int c1)] [])) rfl (hb hby own_d3_221)
                                                obtain ⟨fs, hr, hrun, hended, hW, hsame⟩ := X69.leave (v := some (.ref w22)) (fun h => by rw [Bd.returns] at h; cases h)
                                                refine ⟨_, _, pre67 _ ?_, hrun, hended, _, _, rfl, ?_, ⟨_, rfl⟩, hW, hsame.mono (by decide) (by decide)⟩
                                                · refine XS.icmpNo X0.here hx rfl (hb hby own_d3_218) rfl (teq hc68).2 ?_
                                                  show Steps p.tables e below (s₁.setTop (mkF m 221 #[.val (.int c1)] [])) _
                                                  refine st69 _ ?_
                                                  show Steps p.tables e below (T69.setTop (mkF m 224 #[.val (.int c1)] [(.ref w22)])) _
                                                  exact retOut X69 hx (t := (.object "com/example/vigilant_consumer/vigilantconsumer/ErrorCode")) Bd.returns rfl (Or.inr (Or.inr (Or.inr (Or.inr ⟨rfl, rfl, rfl⟩)))) (hb hby own_d3_224) hr
                                                · show own_Q_own_exp Z c1 w0 w1 w2 w3 w4 w5 w6 w7 w8 w9 w10 w11 w12 w13 w14 w15 w16 w17 w18 w19 w20 w21 w22 h0 n0 _ T69.heap _
                                                  rw [e69]
                                                  exact ⟨by rw [own_ec_neg (Ne.symm hc2), own_ec_neg (Ne.symm hc5), own_ec_neg (Ne.symm hc8), own_ec_neg (Ne.symm hc11), own_ec_neg (Ne.symm hc14), own_ec_neg (Ne.symm hc17), own_ec_neg (Ne.symm hc20), own_ec_neg (Ne.symm hc23), own_ec_neg (Ne.symm hc26), own_ec_neg (Ne.symm hc29), own_ec_neg (Ne.symm hc32), own_ec_neg (Ne.symm hc35), own_ec_neg (Ne.symm hc38), own_ec_neg (Ne.symm hc41), own_ec_neg (Ne.symm hc44), own_ec_neg (Ne.symm hc47), own_ec_neg (Ne.symm hc50), own_ec_neg (Ne.symm hc53), own_ec_neg (Ne.symm hc56), own_ec_neg (Ne.symm hc59), own_ec_neg (Ne.symm hc62), own_ec_neg (Ne.symm hc65), own_ec_pos hc68.symm], N0, rfl⟩
                                              · skip
                                                obtain ⟨fs, hr, hrun, hended, hW, hsame⟩ := X0.leave (v := some .null) (fun h => by rw [Bd.returns] at h; cases h)
                                                refine ⟨_, _, pre67 _ ?_, hrun, hended, _, _, rfl, ?_, ⟨_, rfl⟩, hW, hsame.mono (by decide) (by decide)⟩
                                                · refine XS.icmpYes X0.here hx rfl (pc0 := 218) (pc' := 225) rfl (hb hby own_d3_218) rfl (feq hc68).2 (by decide) (by decide) ?_
                                                  show Steps p.tables e below (s₁.setTop (mkF m 225 #[.val (.int c1)] [])) _
                                                  refine XS.aconstNull X0.here hx rfl (hb hby own_d3_225) ?_
                                                  show Steps p.tables e below (s₁.setTop (mkF m 226 #[.val (.int c1)] [.null])) _
                                                  exact retOut X0 hx (t := (.object "com/example/vigilant_consumer/vigilantconsumer/ErrorCode")) Bd.returns rfl (Or.inr (Or.inr (Or.inr (Or.inr ⟨rfl, rfl, rfl⟩)))) (hb hby own_d3_226) hr
                                                · show own_Q_own_exp Z c1 w0 w1 w2 w3 w4 w5 w6 w7 w8 w9 w10 w11 w12 w13 w14 w15 w16 w17 w18 w19 w20 w21 w22 h0 n0 _ s₁.heap _
                                                  rw [e0]
                                                  exact ⟨by rw [own_ec_neg (Ne.symm hc2), own_ec_neg (Ne.symm hc5), own_ec_neg (Ne.symm hc8), own_ec_neg (Ne.symm hc11), own_ec_neg (Ne.symm hc14), own_ec_neg (Ne.symm hc17), own_ec_neg (Ne.symm hc20), own_ec_neg (Ne.symm hc23), own_ec_neg (Ne.symm hc26), own_ec_neg (Ne.symm hc29), own_ec_neg (Ne.symm hc32), own_ec_neg (Ne.symm hc35), own_ec_neg (Ne.symm hc38), own_ec_neg (Ne.symm hc41), own_ec_neg (Ne.symm hc44), own_ec_neg (Ne.symm hc47), own_ec_neg (Ne.symm hc50), own_ec_neg (Ne.symm hc53), own_ec_neg (Ne.symm hc56), own_ec_neg (Ne.symm hc59), own_ec_neg (Ne.symm hc62), own_ec_neg (Ne.symm hc65), own_ec_neg (Ne.symm hc68)]; rfl, N0, rfl⟩
theorem own_pd1 : parseMethodDescriptor "(S)Lcom/example/vigilant_consumer/vigilantconsumer/ErrorCode;" = some ⟨[.short], some (.object "com/example/vigilant_consumer/vigilantconsumer/ErrorCode")⟩ := by decide +kernel
theorem own_pd2 : parseMethodDescriptor "(I)Lcom/example/vigilant_consumer/vigilantconsumer/ErrorCode;" = some ⟨[.int], some (.object "com/example/vigilant_consumer/vigilantconsumer/ErrorCode")⟩ := by decide +kernel
theorem own_ef0 (m : MethodId) (x0 : Int32) (x1 : Int32) : entryFrame m #[(.int x0), (.int x1)] maxLocals = mkF m 0 #[.val (.int x0), .val (.int x1), .unset, .unset, .unset, .unset, .unset, .unset] [] := by first | (simp [entryFrame, mkF, argsToLocals, Value.category, maxLocals]; done) | rfl
def own_Q_own_law (Z : State) (x1 : Int32) (x2 : Int32) (va : Addr) (kv : ClassId) (w0 : Addr) (w1 : Addr) (w2 : Addr) (w3 : Addr) (w4 : Addr) (w5 : Addr) (w6 : Addr) (w7 : Addr) (w8 : Addr) (w9 : Addr) (w10 : Addr) (w11 : Addr) (w12 : Addr) (w13 : Addr) (w14 : Addr) (w15 : Addr) (w16 : Addr) (w17 : Addr) (w18 : Addr) (w19 : Addr) (w20 : Addr) (w21 : Addr) (w22 : Addr) (h0 : Heap) (n0 : Nat) (v : Option Value) (h : Heap) (L : List Loc) : Prop := v = some (.int 1) ∧ Fr n0 L
set_option maxRecDepth 65536 in
set_option maxHeartbeats 40000000 in
theorem own_law (l : Launch) (Z : State) (a0 : Array Value) (hw : ∀ d ∈ tables_1, d.before a0 Z = true) (ws : List Jvm.Cond) (x1 : Int32) (x2 : Int32) (va : Addr) (kv : ClassId) (w0 : Addr) (w1 : Addr) (w2 : Addr) (w3 : Addr) (w4 : Addr) (w5 : Addr) (w6 : Addr) (w7 : Addr) (w8 : Addr) (w9 : Addr) (w10 : Addr) (w11 : Addr) (w12 : Addr) (w13 : Addr) (w14 : Addr) (w15 : Addr) (w16 : Addr) (w17 : Addr) (w18 : Addr) (w19 : Addr) (w20 : Addr) (w21 : Addr) (w22 : Addr) (h0 : Heap) (n0 : Nat) (Z0 : n0 ≤ h0.size) (O : Old Z n0 h0) (S_V : Sta Z Z.heap "com/example/vigilant_consumer/vigilantconsumer/ErrorCode" "$VALUES" "[Lcom/example/vigilant_consumer/vigilantconsumer/ErrorCode;" (.ref va)) (VV : Arv Z Z.heap va kv (.object "com/example/vigilant_consumer/vigilantconsumer/ErrorCode") (23 : Int32) [(.ref w0), (.ref w1), (.ref w2), (.ref w3), (.ref w4), (.ref w5), (.ref w6), (.ref w7), (.ref w8), (.ref w9), (.ref w10), (.ref w11), (.ref w12), (.ref w13), (.ref w14), (.ref w15), (.ref w16), (.ref w17), (.ref w18), (.ref w19), (.ref w20), (.ref w21), (.ref w22)] .null) (EV : Exa Z Z.heap va "[Lcom/example/vigilant_consumer/vigilantconsumer/ErrorCode;") (F0 : Fld Z Z.heap w0 "com/example/vigilant_consumer/vigilantconsumer/ErrorCode" "code" "S" (.int (0 : Int32))) (F1 : Fld Z Z.heap w1 "com/example/vigilant_consumer/vigilantconsumer/ErrorCode" "code" "S" (.int (1 : Int32))) (F2 : Fld Z Z.heap w2 "com/example/vigilant_consumer/vigilantconsumer/ErrorCode" "code" "S" (.int (3 : Int32))) (F3 : Fld Z Z.heap w3 "com/example/vigilant_consumer/vigilantconsumer/ErrorCode" "code" "S" (.int (5 : Int32))) (F4 : Fld Z Z.heap w4 "com/example/vigilant_consumer/vigilantconsumer/ErrorCode" "code" "S" (.int (6 : Int32))) (F5 : Fld Z Z.heap w5 "com/example/vigilant_consumer/vigilantconsumer/ErrorCode" "code" "S" (.int (9 : Int32))) (F6 : Fld Z Z.heap w6 "com/example/vigilant_consumer/vigilantconsumer/ErrorCode" "code" "S" (.int (14 : Int32))) (F7 : Fld Z Z.heap w7 "com/example/vigilant_consumer/vigilantconsumer/ErrorCode" "code" "S" (.int (15 : Int32))) (F8 : Fld Z Z.heap w8 "com/example/vigilant_consumer/vigilantconsumer/ErrorCode" "code" "S" (.int (16 : Int32))) (F9 : Fld Z Z.heap w9 "com/example/vigilant_consumer/vigilantconsumer/ErrorCode" "code" "S" (.int (22 : Int32))) (F10 : Fld Z Z.heap w10 "com/example/vigilant_consumer/vigilantconsumer/ErrorCode" "code" "S" (.int (23 : Int32))) (F11 : Fld Z Z.heap w11 "com/example/vigilant_consumer/vigilantconsumer/ErrorCode" "code" "S" (.int (25 : Int32))) (F12 : Fld Z Z.heap w12 "com/example/vigilant_consumer/vigilantconsumer/ErrorCode" "code" "S" (.int (26 : Int32))) (F13 : Fld Z Z.heap w13 "com/example/vigilant_consumer/vigilantconsumer/ErrorCode" "code" "S" (.int (27 : Int32))) (F14 : Fld Z Z.heap w14 "com/example/vigilant_consumer/vigilantconsumer/ErrorCode" "code" "S" (.int (29 : Int32))) (F15 : Fld Z Z.heap w15 "com/example/vigilant_consumer/vigilantconsumer/ErrorCode" "code" "S" (.int (30 : Int32))) (F16 : Fld Z Z.heap w16 "com/example/vigilant_consumer/vigilantconsumer/ErrorCode" "code" "S" (.int (35 : Int32))) (F17 : Fld Z Z.heap w17 "com/example/vigilant_consumer/vigilantconsumer/ErrorCode" "code" "S" (.int (42 : Int32))) (F18 : Fld Z Z.heap w18 "com/example/vigilant_consumer/vigilantconsumer/ErrorCode" "code" "S" (.int (56 : Int32))) (F19 : Fld Z Z.heap w19 "com/example/vigilant_consumer/vigilantconsumer/ErrorCode" "code" "S" (.int (74 : Int32))) (F20 : Fld Z Z.heap w20 "com/example/vigilant_consumer/vigilantconsumer/ErrorCode" "code" "S" (.int (75 : Int32))) (F21 : Fld Z Z.heap w21 "com/example/vigilant_consumer/vigilantconsumer/ErrorCode" "code" "S" (.int (78 : Int32))) (F22 : Fld Z Z.heap w22 "com/example/vigilant_consumer/vigilantconsumer/ErrorCode" "code" "S" (.int (79 : Int32))) (S_0 : Sta Z Z.heap "com/example/vigilant_consumer/vigilantconsumer/ErrorCode" "NONE" "Lcom/example/vigilant_consumer/vigilantconsumer/ErrorCode;" (.ref w0)) (S_1 : Sta Z Z.heap "com/example/vigilant_consumer/vigilantconsumer/ErrorCode" "OFFSET_OUT_OF_RANGE" "Lcom/example/vigilant_consumer/vigilantconsumer/ErrorCode;" (.ref w1)) (S_2 : Sta Z Z.heap "com/example/vigilant_consumer/vigilantconsumer/ErrorCode" "UNKNOWN_TOPIC_OR_PARTITION" "Lcom/example/vigilant_consumer/vigilantconsumer/ErrorCode;" (.ref w2)) (S_3 : Sta Z Z.heap "com/example/vigilant_consumer/vigilantconsumer/ErrorCode" "LEADER_NOT_AVAILABLE" "Lcom/example/vigilant_consumer/vigilantconsumer/ErrorCode;" (.ref w3)) (S_4 : Sta Z Z.heap "com/example/vigilant_consumer/vigilantconsumer/ErrorCode" "NOT_LEADER_OR_FOLLOWER" "Lcom/example/vigilant_consumer/vigilantconsumer/ErrorCode;" (.ref w4)) (S_5 : Sta Z Z.heap "com/example/vigilant_consumer/vigilantconsumer/ErrorCode" "REPLICA_NOT_AVAILABLE" "Lcom/example/vigilant_consumer/vigilantconsumer/ErrorCode;" (.ref w5)) (S_6 : Sta Z Z.heap "com/example/vigilant_consumer/vigilantconsumer/ErrorCode" "COORDINATOR_LOAD_IN_PROGRESS" "Lcom/example/vigilant_consumer/vigilantconsumer/ErrorCode;" (.ref w6)) (S_7 : Sta Z Z.heap "com/example/vigilant_consumer/vigilantconsumer/ErrorCode" "COORDINATOR_NOT_AVAILABLE" "Lcom/example/vigilant_consumer/vigilantconsumer/ErrorCode;" (.ref w7)) (S_8 : Sta Z Z.heap "com/example/vigilant_consumer/vigilantconsumer/ErrorCode" "NOT_COORDINATOR" "Lcom/example/vigilant_consumer/vigilantconsumer/ErrorCode;" (.ref w8)) (S_9 : Sta Z Z.heap "com/example/vigilant_consumer/vigilantconsumer/ErrorCode" "ILLEGAL_GENERATION" "Lcom/example/vigilant_consumer/vigilantconsumer/ErrorCode;" (.ref w9)) (S_10 : Sta Z Z.heap "com/example/vigilant_consumer/vigilantconsumer/ErrorCode" "INCONSISTENT_GROUP_PROTOCOL" "Lcom/example/vigilant_consumer/vigilantconsumer/ErrorCode;" (.ref w10)) (S_11 : Sta Z Z.heap "com/example/vigilant_consumer/vigilantconsumer/ErrorCode" "UNKNOWN_MEMBER_ID" "Lcom/example/vigilant_consumer/vigilantconsumer/ErrorCode;" (.ref w11)) (S_12 : Sta Z Z.heap "com/example/vigilant_consumer/vigilantconsumer/ErrorCode" "INVALID_SESSION_TIMEOUT" "Lcom/example/vigilant_consumer/vigilantconsumer/ErrorCode;" (.ref w12)) (S_13 : Sta Z Z.heap "com/example/vigilant_consumer/vigilantconsumer/ErrorCode" "REBALANCE_IN_PROGRESS" "Lcom/example/vigilant_consumer/vigilantconsumer/ErrorCode;" (.ref w13)) (S_14 : Sta Z Z.heap "com/example/vigilant_consumer/vigilantconsumer/ErrorCode" "TOPIC_AUTHORIZATION_FAILED" "Lcom/example/vigilant_consumer/vigilantconsumer/ErrorCode;" (.ref w14)) (S_15 : Sta Z Z.heap "com/example/vigilant_consumer/vigilantconsumer/ErrorCode" "GROUP_AUTHORIZATION_FAILED" "Lcom/example/vigilant_consumer/vigilantconsumer/ErrorCode;" (.ref w15)) (S_16 : Sta Z Z.heap "com/example/vigilant_consumer/vigilantconsumer/ErrorCode" "UNSUPPORTED_VERSION" "Lcom/example/vigilant_consumer/vigilantconsumer/ErrorCode;" (.ref w16)) (S_17 : Sta Z Z.heap "com/example/vigilant_consumer/vigilantconsumer/ErrorCode" "INVALID_REQUEST" "Lcom/example/vigilant_consumer/vigilantconsumer/ErrorCode;" (.ref w17)) (S_18 : Sta Z Z.heap "com/example/vigilant_consumer/vigilantconsumer/ErrorCode" "KAFKA_STORAGE_ERROR" "Lcom/example/vigilant_consumer/vigilantconsumer/ErrorCode;" (.ref w18)) (S_19 : Sta Z Z.heap "com/example/vigilant_consumer/vigilantconsumer/ErrorCode" "FENCED_LEADER_EPOCH" "Lcom/example/vigilant_consumer/vigilantconsumer/ErrorCode;" (.ref w19)) (S_20 : Sta Z Z.heap "com/example/vigilant_consumer/vigilantconsumer/ErrorCode" "UNKNOWN_LEADER_EPOCH" "Lcom/example/vigilant_consumer/vigilantconsumer/ErrorCode;" (.ref w20)) (S_21 : Sta Z Z.heap "com/example/vigilant_consumer/vigilantconsumer/ErrorCode" "OFFSET_NOT_AVAILABLE" "Lcom/example/vigilant_consumer/vigilantconsumer/ErrorCode;" (.ref w21)) (S_22 : Sta Z Z.heap "com/example/vigilant_consumer/vigilantconsumer/ErrorCode" "MEMBER_ID_REQUIRED" "Lcom/example/vigilant_consumer/vigilantconsumer/ErrorCode;" (.ref w22)) (EX0 : Exa Z Z.heap w0 "com/example/vigilant_consumer/vigilantconsumer/ErrorCode") (EX1 : Exa Z Z.heap w1 "com/example/vigilant_consumer/vigilantconsumer/ErrorCode") (EX2 : Exa Z Z.heap w2 "com/example/vigilant_consumer/vigilantconsumer/ErrorCode") (EX3 : Exa Z Z.heap w3 "com/example/vigilant_consumer/vigilantconsumer/ErrorCode") (EX4 : Exa Z Z.heap w4 "com/example/vigilant_consumer/vigilantconsumer/ErrorCode") (EX5 : Exa Z Z.heap w5 "com/example/vigilant_consumer/vigilantconsumer/ErrorCode") (EX6 : Exa Z Z.heap w6 "com/example/vigilant_consumer/vigilantconsumer/ErrorCode") (EX7 : Exa Z Z.heap w7 "com/example/vigilant_consumer/vigilantconsumer/ErrorCode") (EX8 : Exa Z Z.heap w8 "com/example/vigilant_consumer/vigilantconsumer/ErrorCode") (EX9 : Exa Z Z.heap w9 "com/example/vigilant_consumer/vigilantconsumer/ErrorCode") (EX10 : Exa Z Z.heap w10 "com/example/vigilant_consumer/vigilantconsumer/ErrorCode") (EX11 : Exa Z Z.heap w11 "com/example/vigilant_consumer/vigilantconsumer/ErrorCode") (EX12 : Exa Z Z.heap w12 "com/example/vigilant_consumer/vigilantconsumer/ErrorCode") (EX13 : Exa Z Z.heap w13 "com/example/vigilant_consumer/vigilantconsumer/ErrorCode") (EX14 : Exa Z Z.heap w14 "com/example/vigilant_consumer/vigilantconsumer/ErrorCode") (EX15 : Exa Z Z.heap w15 "com/example/vigilant_consumer/vigilantconsumer/ErrorCode") (EX16 : Exa Z Z.heap w16 "com/example/vigilant_consumer/vigilantconsumer/ErrorCode") (EX17 : Exa Z Z.heap w17 "com/example/vigilant_consumer/vigilantconsumer/ErrorCode") (EX18 : Exa Z Z.heap w18 "com/example/vigilant_consumer/vigilantconsumer/ErrorCode") (EX19 : Exa Z Z.heap w19 "com/example/vigilant_consumer/vigilantconsumer/ErrorCode") (EX20 : Exa Z Z.heap w20 "com/example/vigilant_consumer/vigilantconsumer/ErrorCode") (EX21 : Exa Z Z.heap w21 "com/example/vigilant_consumer/vigilantconsumer/ErrorCode") (EX22 : Exa Z Z.heap w22 "com/example/vigilant_consumer/vigilantconsumer/ErrorCode") :
    MetFree l x (head1 (Jvm.Cond.code x code maxLocals ret :: ws) room_1) (fun as_ U => as_ = #[(.int x1), (.int x2)] ∧ Z.Warmed39 U.vm ∧ U.heap = h0) (fun _ _ _ _ _ => True) (fun _ U o U' => ∃ v L, o = .returned v ∧ own_Q_own_law Z x1 x2 va kv w0 w1 w2 w3 w4 w5 w6 w7 w8 w9 w10 w11 w12 w13 w14 w15 w16 w17 w18 w19 w20 w21 w22 h0 n0 v U'.heap L ∧ FrameEnd U o U' L room_1.cells room_1.slots) := by
  refine MetFree.of_bodySF (plainFor_of_name own_pn1) hisR ?_
  intro p e s m args below meth c s₁ Bd hml0 hP hK
  obtain ⟨rfl, hZ, hh⟩ := hP
  have hx := Bd.exec
  have hby := Bd.bytes
  have hml : c.maxLocals = 8 := hml0
  have hown : s.vm.findClass "com/example/vigilant_consumer/vigilantconsumer/ErrorCodeOfPinLaw" = some m.cls := findClass_of_methodNamed Bd.named
  have hnm := (name_of_methodNamed Bd.named Bd.method).1
  have X0 : Stand p l e room_1 s m #[(.int x1), (.int x2)] below meth c s₁ [] 0 0 := Stand.of_body Bd
  have e0 : s₁.heap = h0 := by rw [← hh, Bd.state]; rfl
  have N0 := Fr.nil n0
  have pre0 : ∀ t, Steps p.tables e below (s₁.setTop (mkF m 0 #[.val (.int x1), .val (.int x2), .unset, .unset, .unset, .unset, .unset, .unset] [])) t → Steps p.tables e below (s₁.setTop (entryFrame m #[(.int x1), (.int x2)] maxLocals)) t := fun t k => castTop (own_ef0 m x1 x2) k
  obtain ⟨T1, h1, k1, X1, e1, E1, A1, O1, st1⟩ := newR X0 hx hZ hown (hw _ (List.mem_of_getElem? (i := 0) rfl)) (hw _ (List.mem_of_getElem? (i := 1) rfl)) e0 (g := (mkF m 2 #[.val (.int x1), .val (.int x2), .unset, .unset, .unset, .unset, .unset, .unset] [(.int (23 : Int32))])) rfl (hb hby at_2) rfl (by decide) (cap := 23) (by decide) (by decide) (by decide) (by decide)
  obtain ⟨b1, g1⟩ : ∃ z, z = h0.size := ⟨_, rfl⟩
  rw [← g1] at A1 st1
  have g_b1 : n0 ≤ b1 := Nat.le_trans Z0 (Nat.le_of_eq g1.symm)
  have O := O.ext E1
  have Z2 : n0 ≤ h1.size := Nat.le_trans Z0 E1.1
  have V_b1 : Arv Z h1 b1 k1 (.object "com/example/vigilant_consumer/vigilantconsumer/ErrorCode") (23 : Int32) [.null, .null, .null, .null, .null, .null, .null, .null, .null, .null, .null, .null, .null, .null, .null, .null, .null, .null, .null, .null, .null, .null, .null] .null := (Arv.new A1 (by decide)).pad (pad_rep [] .null 23)
  obtain ⟨T3, X3, e3, st3⟩ := getS2 X1 hx hZ hown (host := "") (Or.inl (hw _ (List.mem_of_getElem? (i := 2) rfl))) Via.refl e1 (S_0.ext O.2) (g := (mkF m 7 #[.val (.int x1), .val (.int x2), .unset, .unset, .unset, .unset, .unset, .unset] [(.int (0 : Int32)), (.ref b1), (.ref b1)])) rfl (hb hby at_7)
  obtain ⟨cl4, Ar4, q4, S4, M4, H4, G4⟩ := id V_b1
  have hin4 : ¬ ((0 : Int32) < 0 ∨ cl4.slots.size ≤ ((0 : Int32)).toNatClampNeg) := inb_of S4 ⟨by decide, by decide⟩
  obtain ⟨T5, h5, X5, e5, W5, st5⟩ := stR X3 hx hZ e3 Ar4 (j := (0 : Int32)) hin4 rfl (Sto.ofV Ar4 q4 O1 (Ins.self (EX0.ext O.2))) (g := (mkF m 10 #[.val (.int x1), .val (.int x2), .unset, .unset, .unset, .unset, .unset, .unset] [(.ref w0), (.int (0 : Int32)), (.ref b1), (.ref b1)])) rfl rfl (hb hby at_10)
  have O := O.wr W5 g_b1
  have Z6 : n0 ≤ h5.size := Nat.le_trans Z2 (Keep.of_wr W5).1
  have V_b1 := Arv.set Ar4 q4 S4 M4 H4 G4 rfl W5 0 rfl (Nat.le_of_ble_eq_true rfl)
  have V_b1 : Arv Z h5 b1 k1 (.object "com/example/vigilant_consumer/vigilantconsumer/ErrorCode") (23 : Int32) [(.ref w0), .null, .null, .null, .null, .null, .null, .null, .null, .null, .null, .null, .null, .null, .null, .null, .null, .null, .null, .null, .null, .null, .null] .null := V_b1
  have N5 := Fr.snoc X5 N0 g_b1
  obtain ⟨T7, X7, e7, st7⟩ := getS2 X5 hx hZ hown (host := "") (Or.inl (hw _ (List.mem_of_getElem? (i := 6) rfl))) Via.refl e5 (S_1.ext O.2) (g := (mkF m 13 #[.val (.int x1), .val (.int x2), .unset, .unset, .unset, .unset, .unset, .unset] [(.int (1 : Int32)), (.ref b1), (.ref b1)])) rfl (hb hby at_13)
  obtain ⟨cl8, Ar8, q8, S8, M8, H8, G8⟩ := id V_b1
  have hin8 : ¬ ((1 : Int32) < 0 ∨ cl8.slots.size ≤ ((1 : Int32)).toNatClampNeg) := inb_of S8 ⟨by decide, by decide⟩
  obtain ⟨T9, h9, X9, e9, W9, st9⟩ := stR X7 hx hZ e7 Ar8 (j := (1 : Int32)) hin8 rfl (Sto.ofV Ar8 q8 O1 (Ins.self (EX1.ext O.2))) (g := (mkF m 16 #[.val (.int x1), .val (.int x2), .unset, .unset, .unset, .unset, .unset, .unset] [(.ref w1), (.int (1 : Int32)), (.ref b1), (.ref b1)])) rfl rfl (hb hby at_16)
  have O := O.wr W9 g_b1
  have Z10 : n0 ≤ h9.size := Nat.le_trans Z6 (Keep.of_wr W9).1
  have V_b1 := Arv.set Ar8 q8 S8 M8 H8 G8 rfl W9 1 rfl (Nat.le_of_ble_eq_true rfl)
  have V_b1 : Arv Z h9 b1 k1 (.object "com/example/vigilant_consumer/vigilantconsumer/ErrorCode") (23 : Int32) [(.ref w0), (.ref w1), .null, .null, .null, .null, .null, .null, .null, .null, .null, .null, .null, .null, .null, .null, .null, .null, .null, .null, .null, .null, .null] .null := V_b1
  have N9 := Fr.snoc X9 N5 g_b1
  obtain ⟨T11, X11, e11, st11⟩ := getS2 X9 hx hZ hown (host := "") (Or.inl (hw _ (List.mem_of_getElem? (i := 8) rfl))) Via.refl e9 (S_2.ext O.2) (g := (mkF m 19 #[.val (.int x1), .val (.int x2), .unset, .unset, .unset, .unset, .unset, .unset] [(.int (2 : Int32)), (.ref b1), (.ref b1)])) rfl (hb hby at_19)
  obtain ⟨cl12, Ar12, q12, S12, M12, H12, G12⟩ := id V_b1
  have hin12 : ¬ ((2 : Int32) < 0 ∨ cl12.slots.size ≤ ((2 : Int32)).toNatClampNeg) := inb_of S12 ⟨by decide, by decide⟩
  obtain ⟨T13, h13, X13, e13, W13, st13⟩ := stR X11 hx hZ e11 Ar12 (j := (2 : Int32)) hin12 rfl (Sto.ofV Ar12 q12 O1 (Ins.self (EX2.ext O.2))) (g := (mkF m 22 #[.val (.int x1), .val (.int x2), .unset, .unset, .unset, .unset, .unset, .unset] [(.ref w2), (.int (2 : Int32)), (.ref b1), (.ref b1)])) rfl rfl (hb hby at_22)
  have O := O.wr W13 g_b1
  have Z14 : n0 ≤ h13.size := Nat.le_trans Z10 (Keep.of_wr W13).1
  have V_b1 := Arv.set Ar12 q12 S12 M12 H12 G12 rfl W13 2 rfl (Nat.le_of_ble_eq_true rfl)
  have V_b1 : Arv Z h13 b1 k1 (.object "com/example/vigilant_consumer/vigilantconsumer/ErrorCode") (23 : Int32) [(.ref w0), (.ref w1), (.ref w2), .null, .null, .null, .null, .null, .null, .null, .null, .null, .null, .null, .null, .null, .null, .null, .null, .null, .null, .null, .null] .null := V_b1
  have N13 := Fr.snoc X13 N9 g_b1
  obtain ⟨T15, X15, e15, st15⟩ := getS2 X13 hx hZ hown (host := "") (Or.inl (hw _ (List.mem_of_getElem? (i := 10) rfl))) Via.refl e13 (S_3.ext O.2) (g := (mkF m 25 #[.val (.int x1), .val (.int x2), .unset, .unset, .unset, .unset, .unset, .unset] [(.int (3 : Int32)), (.ref b1), (.ref b1)])) rfl (hb hby at_25)
  obtain ⟨cl16, Ar16, q16, S16, M16, H16, G16⟩ := id V_b1
  have hin16 : ¬ ((3 : Int32) < 0 ∨ cl16.slots.size ≤ ((3 : Int32)).toNatClampNeg) := inb_of S16 ⟨by decide, by decide⟩
  obtain ⟨T17, h17, X17, e17, W17, st17⟩ := stR X15 hx hZ e15 Ar16 (j := (3 : Int32)) hin16 rfl (Sto.ofV Ar16 q16 O1 (Ins.self (EX3.ext O.2))) (g := (mkF m 28 #[.val (.int x1), .val (.int x2), .unset, .unset, .unset, .unset, .unset, .unset] [(.ref w3), (.int (3 : Int32)), (.ref b1), (.ref b1)])) rfl rfl (hb hby at_28)
  have O := O.wr W17 g_b1
  have Z18 : n0 ≤ h17.size := Nat.le_trans Z14 (Keep.of_wr W17).1
  have V_b1 := Arv.set Ar16 q16 S16 M16 H16 G16 rfl W17 3 rfl (Nat.le_of_ble_eq_true rfl)
  have V_b1 : Arv Z h17 b1 k1 (.object "com/example/vigilant_consumer/vigilantconsumer/ErrorCode") (23 : Int32) [(.ref w0), (.ref w1), (.ref w2), (.ref w3), .null, .null, .null, .null, .null, .null, .null, .null, .null, .null, .null, .null, .null, .null, .null, .null, .null, .null, .null] .null := V_b1
  have N17 := Fr.snoc X17 N13 g_b1
  obtain ⟨T19, X19, e19, st19⟩ := getS2 X17 hx hZ hown (host := "") (Or.inl (hw _ (List.mem_of_getElem? (i := 12) rfl))) Via.refl e17 (S_4.ext O.2) (g := (mkF m 31 #[.val (.int x1), .val (.int x2), .unset, .unset, .unset, .unset, .unset, .unset] [(.int (4 : Int32)), (.ref b1), (.ref b1)])) rfl (hb hby at_31)
  obtain ⟨cl20, Ar20, q20, S20, M20, H20, G20⟩ := id V_b1
  have hin20 : ¬ ((4 : Int32) < 0 ∨ cl20.slots.size ≤ ((4 : Int32)).toNatClampNeg) := inb_of S20 ⟨by decide, by decide⟩
  obtain ⟨T21, h21, X21, e21, W21, st21⟩ := stR X19 hx hZ e19 Ar20 (j := (4 : Int32)) hin20 rfl (Sto.ofV Ar20 q20 O1 (Ins.self (EX4.ext O.2))) (g := (mkF m 34 #[.val (.int x1), .val (.int x2), .unset, .unset, .unset, .unset, .unset, .unset] [(.ref w4), (.int (4 : Int32)), (.ref b1), (.ref b1)])) rfl rfl (hb hby at_34)
  have O := O.wr W21 g_b1
  have Z22 : n0 ≤ h21.size := Nat.le_trans Z18 (Keep.of_wr W21).1
  have V_b1 := Arv.set Ar20 q20 S20 M20 H20 G20 rfl W21 4 rfl (Nat.le_of_ble_eq_true rfl)
  have V_b1 : Arv Z h21 b1 k1 (.object "com/example/vigilant_consumer/vigilantconsumer/ErrorCode") (23 : Int32) [(.ref w0), (.ref w1), (.ref w2), (.ref w3), (.ref w4), .null, .null, .null, .null, .null, .null, .null, .null, .null, .null, .null, .null, .null, .null, .null, .null, .null, .null] .null := V_b1
  have N21 := Fr.snoc X21 N17 g_b1
  obtain ⟨T23, X23, e23, st23⟩ := getS2 X21 hx hZ hown (host := "") (Or.inl (hw _ (List.mem_of_getElem? (i := 14) rfl))) Via.refl e21 (S_5.ext O.2) (g := (mkF m 37 #[.val (.int x1), .val (.int x2), .unset, .unset, .unset, .unset, .unset, .unset] [(.int (5 : Int32)), (.ref b1), (.ref b1)])) rfl (hb hby at_37)
  obtain ⟨cl24, Ar24, q24, S24, M24, H24, G24⟩ := id V_b1
  have hin24 : ¬ ((5 : Int32) < 0 ∨ cl24.slots.size ≤ ((5 : Int32)).toNatClampNeg) := inb_of S24 ⟨by decide, by decide⟩
  obtain ⟨T25, h25, X25, e25, W25, st25⟩ := stR X23 hx hZ e23 Ar24 (j := (5 : Int32)) hin24 rfl (Sto.ofV Ar24 q24 O1 (Ins.self (EX5.ext O.2))) (g := (mkF m 40 #[.val (.int x1), .val (.int x2), .unset, .unset, .unset, .unset, .unset, .unset] [(.ref w5), (.int (5 : Int32)), (.ref b1), (.ref b1)])) rfl rfl (hb hby at_40)
  have O := O.wr W25 g_b1
  have Z26 : n0 ≤ h25.size := Nat.le_trans Z22 (Keep.of_wr W25).1
  have V_b1 := Arv.set Ar24 q24 S24 M24 H24 G24 rfl W25 5 rfl (Nat.le_of_ble_eq_true rfl)
  have V_b1 : Arv Z h25 b1 k1 (.object "com/example/vigilant_consumer/vigilantconsumer/ErrorCode") (23 : Int32) [(.ref w0), (.ref w1), (.ref w2), (.ref w3), (.ref w4), (.ref w5), .null, .null, .null, .null, .null, .null, .null, .null, .null, .null, .null, .null, .null, .null, .null, .null, .null] .null := V_b1
  have N25 := Fr.snoc X25 N21 g_b1
  obtain ⟨T27, X27, e27, st27⟩ := getS2 X25 hx hZ hown (host := "") (Or.inl (hw _ (List.mem_of_getElem? (i := 16) rfl))) Via.refl e25 (S_6.ext O.2) (g := (mkF m 44 #[.val (.int x1), .val (.int x2), .unset, .unset, .unset, .unset, .unset, .unset] [(.int (6 : Int32)), (.ref b1), (.ref b1)])) rfl (hb hby at_44)
  obtain ⟨cl28, Ar28, q28, S28, M28, H28, G28⟩ := id V_b1
  have hin28 : ¬ ((6 : Int32) < 0 ∨ cl28.slots.size ≤ ((6 : Int32)).toNatClampNeg) := inb_of S28 ⟨by decide, by decide⟩
  obtain ⟨T29, h29, X29, e29, W29, st29⟩ := stR X27 hx hZ e27 Ar28 (j := (6 : Int32)) hin28 rfl (Sto.ofV Ar28 q28 O1 (Ins.self (EX6.ext O.2))) (g := (mkF m 47 #[.val (.int x1), .val (.int x2), .unset, .unset, .unset, .unset, .unset, .unset] [(.ref w6), (.int (6 : Int32)), (.ref b1), (.ref b1)])) rfl rfl (hb hby at_47)
  have O := O.wr W29 g_b1
  have Z30 : n0 ≤ h29.size := Nat.le_trans Z26 (Keep.of_wr W29).1
  have V_b1 := Arv.set Ar28 q28 S28 M28 H28 G28 rfl W29 6 rfl (Nat.le_of_ble_eq_true rfl)
  have V_b1 : Arv Z h29 b1 k1 (.object "com/example/vigilant_consumer/vigilantconsumer/ErrorCode") (23 : Int32) [(.ref w0), (.ref w1), (.ref w2), (.ref w3), (.ref w4), (.ref w5), (.ref w6), .null, .null, .null, .null, .null, .null, .null, .null, .null, .null, .null, .null, .null, .null, .null, .null] .null := V_b1
  have N29 := Fr.snoc X29 N25 g_b1
  obtain ⟨T31, X31, e31, st31⟩ := getS2 X29 hx hZ hown (host := "") (Or.inl (hw _ (List.mem_of_getElem? (i := 18) rfl))) Via.refl e29 (S_7.ext O.2) (g := (mkF m 51 #[.val (.int x1), .val (.int x2), .unset, .unset, .unset, .unset, .unset, .unset] [(.int (7 : Int32)), (.ref b1), (.ref b1)])) rfl (hb hby at_51)
  obtain ⟨cl32, Ar32, q32, S32, M32, H32, G32⟩ := id V_b1
  have hin32 : ¬ ((7 : Int32) < 0 ∨ cl32.slots.size ≤ ((7 : Int32)).toNatClampNeg) := inb_of S32 ⟨by decide, by decide⟩
  obtain ⟨T33, h33, X33, e33, W33, st33⟩ := stR X31 hx hZ e31 Ar32 (j := (7 : Int32)) hin32 rfl (Sto.ofV Ar32 q32 O1 (Ins.self (EX7.ext O.2))) (g := (mkF m 54 #[.val (.int x1), .val (.int x2), .unset, .unset, .unset, .unset, .unset, .unset] [(.ref w7), (.int (7 : Int32)), (.ref b1), (.ref b1)])) rfl rfl (hb hby at_54)
  have O := O.wr W33 g_b1
  have Z34 : n0 ≤ h33.size := Nat.le_trans Z30 (Keep.of_wr W33).1
  have V_b1 := Arv.set Ar32 q32 S32 M32 H32 G32 rfl W33 7 rfl (Nat.le_of_ble_eq_true rfl)
  have V_b1 : Arv Z h33 b1 k1 (.object "com/example/vigilant_consumer/vigilantconsumer/ErrorCode") (23 : Int32) [(.ref w0), (.ref w1), (.ref w2), (.ref w3), (.ref w4), (.ref w5), (.ref w6), (.ref w7), .null, .null, .null, .null, .null, .null, .null, .null, .null, .null, .null, .null, .null, .null, .null] .null := V_b1
  have N33 := Fr.snoc X33 N29 g_b1
  obtain ⟨T35, X35, e35, st35⟩ := getS2 X33 hx hZ hown (host := "") (Or.inl (hw _ (List.mem_of_getElem? (i := 20) rfl))) Via.refl e33 (S_8.ext O.2) (g := (mkF m 58 #[.val (.int x1), .val (.int x2), .unset, .unset, .unset, .unset, .unset, .unset] [(.int (8 : Int32)), (.ref b1), (.ref b1)])) rfl (hb hby at_58)
  obtain ⟨cl36, Ar36, q36, S36, M36, H36, G36⟩ := id V_b1
  have hin36 : ¬ ((8 : Int32) < 0 ∨ cl36.slots.size ≤ ((8 : Int32)).toNatClampNeg) := inb_of S36 ⟨by decide, by decide⟩
  obtain ⟨T37, h37, X37, e37, W37, st37⟩ := stR X35 hx hZ e35 Ar36 (j := (8 : Int32)) hin36 rfl (Sto.ofV Ar36 q36 O1 (Ins.self (EX8.ext O.2))) (g := (mkF m 61 #[.val (.int x1), .val (.int x2), .unset, .unset, .unset, .unset, .unset, .unset] [(.ref w8), (.int (8 : Int32)), (.ref b1), (.ref b1)])) rfl rfl (hb hby at_61)
  have O := O.wr W37 g_b1
  have Z38 : n0 ≤ h37.size := Nat.le_trans Z34 (Keep.of_wr W37).1
  have V_b1 := Arv.set Ar36 q36 S36 M36 H36 G36 rfl W37 8 rfl (Nat.le_of_ble_eq_true rfl)
  have V_b1 : Arv Z h37 b1 k1 (.object "com/example/vigilant_consumer/vigilantconsumer/ErrorCode") (23 : Int32) [(.ref w0), (.ref w1), (.ref w2), (.ref w3), (.ref w4), (.ref w5), (.ref w6), (.ref w7), (.ref w8), .null, .null, .null, .null, .null, .null, .null, .null, .null, .null, .null, .null, .null, .null] .null := V_b1
  have N37 := Fr.snoc X37 N33 g_b1
  obtain ⟨T39, X39, e39, st39⟩ := getS2 X37 hx hZ hown (host := "") (Or.inl (hw _ (List.mem_of_getElem? (i := 22) rfl))) Via.refl e37 (S_9.ext O.2) (g := (mkF m 65 #[.val (.int x1), .val (.int x2), .unset, .unset, .unset, .unset, .unset, .unset] [(.int (9 : Int32)), (.ref b1), (.ref b1)])) rfl (hb hby at_65)
  obtain ⟨cl40, Ar40, q40, S40, M40, H40, G40⟩ := id V_b1
  have hin40 : ¬ ((9 : Int32) < 0 ∨ cl40.slots.size ≤ ((9 : Int32)).toNatClampNeg) := inb_of S40 ⟨by decide, by decide⟩
  obtain ⟨T41, h41, X41, e41, W41, st41⟩ := stR X39 hx hZ e39 Ar40 (j := (9 : Int32)) hin40 rfl (Sto.ofV Ar40 q40 O1 (Ins.self (EX9.ext O.2))) (g := (mkF m 68 #[.val (.int x1), .val (.int x2), .unset, .unset, .unset, .unset, .unset, .unset] [(.ref w9), (.int (9 : Int32)), (.ref b1), (.ref b1)])) rfl rfl (hb hby at_68)
  have O := O.wr W41 g_b1
  have Z42 : n0 ≤ h41.size := Nat.le_trans Z38 (Keep.of_wr W41).1
  have V_b1 := Arv.set Ar40 q40 S40 M40 H40 G40 rfl W41 9 rfl (Nat.le_of_ble_eq_true rfl)
  have V_b1 : Arv Z h41 b1 k1 (.object "com/example/vigilant_consumer/vigilantconsumer/ErrorCode") (23 : Int32) [(.ref w0), (.ref w1), (.ref w2), (.ref w3), (.ref w4), (.ref w5), (.ref w6), (.ref w7), (.ref w8), (.ref w9), .null, .null, .null, .null, .null, .null, .null, .null, .null, .null, .null, .null, .null] .null := V_b1
  have N41 := Fr.snoc X41 N37 g_b1
  obtain ⟨T43, X43, e43, st43⟩ := getS2 X41 hx hZ hown (host := "") (Or.inl (hw _ (List.mem_of_getElem? (i := 24) rfl))) Via.refl e41 (S_10.ext O.2) (g := (mkF m 72 #[.val (.int x1), .val (.int x2), .unset, .unset, .unset, .unset, .unset, .unset] [(.int (10 : Int32)), (.ref b1), (.ref b1)])) rfl (hb hby at_72)
  obtain ⟨cl44, Ar44, q44, S44, M44, H44, G44⟩ := id V_b1
  have hin44 : ¬ ((10 : Int32) < 0 ∨ cl44.slots.size ≤ ((10 : Int32)).toNatClampNeg) := inb_of S44 ⟨by decide, by decide⟩
  obtain ⟨T45, h45, X45, e45, W45, st45⟩ := stR X43 hx hZ e43 Ar44 (j := (10 : Int32)) hin44 rfl (Sto.ofV Ar44 q44 O1 (Ins.self (EX10.ext O.2))) (g := (mkF m 75 #[.val (.int x1), .val (.int x2), .unset, .unset, .unset, .unset, .unset, .unset] [(.ref w10), (.int (10 : Int32)), (.ref b1), (.ref b1)])) rfl rfl (hb hby at_75)
  have O := O.wr W45 g_b1
  have Z46 : n0 ≤ h45.size := Nat.le_trans Z42 (Keep.of_wr W45).1
  have V_b1 := Arv.set Ar44 q44 S44 M44 H44 G44 rfl W45 10 rfl (Nat.le_of_ble_eq_true rfl)
  have V_b1 : Arv Z h45 b1 k1 (.object "com/example/vigilant_consumer/vigilantconsumer/ErrorCode") (23 : Int32) [(.ref w0), (.ref w1), (.ref w2), (.ref w3), (.ref w4), (.ref w5), (.ref w6), (.ref w7), (.ref w8), (.ref w9), (.ref w10), .null, .null, .null, .null, .null, .null, .null, .null, .null, .null, .null, .null] .null := V_b1
  have N45 := Fr.snoc X45 N41 g_b1
  obtain ⟨T47, X47, e47, st47⟩ := getS2 X45 hx hZ hown (host := "") (Or.inl (hw _ (List.mem_of_getElem? (i := 26) rfl))) Via.refl e45 (S_11.ext O.2) (g := (mkF m 79 #[.val (.int x1), .val (.int x2), .unset, .unset, .unset, .unset, .unset, .unset] [(.int (11 : Int32)), (.ref b1), (.ref b1)])) rfl (hb hby at_79)
  obtain ⟨cl48, Ar48, q48, S48, M48, H48, G48⟩ := id V_b1
  have hin48 : ¬ ((11 : Int32) < 0 ∨ cl48.slots.size ≤ ((11 : Int32)).toNatClampNeg) := inb_of S48 ⟨by decide, by decide⟩
  obtain ⟨T49, h49, X49, e49, W49, st49⟩ := stR X47 hx hZ e47 Ar48 (j := (11 : Int32)) hin48 rfl (Sto.ofV Ar48 q48 O1 (Ins.self (EX11.ext O.2))) (g := (mkF m 82 #[.val (.int x1), .val (.int x2), .unset, .unset, .unset, .unset, .unset, .unset] [(.ref w11), (.int (11 : Int32)), (.ref b1), (.ref b1)])) rfl rfl (hb hby at_82)
  have O := O.wr W49 g_b1
  have Z50 : n0 ≤ h49.size := Nat.le_trans Z46 (Keep.of_wr W49).1
  have V_b1 := Arv.set Ar48 q48 S48 M48 H48 G48 rfl W49 11 rfl (Nat.le_of_ble_eq_true rfl)
  have V_b1 : Arv Z h49 b1 k1 (.object "com/example/vigilant_consumer/vigilantconsumer/ErrorCode") (23 : Int32) [(.ref w0), (.ref w1), (.ref w2), (.ref w3), (.ref w4), (.ref w5), (.ref w6), (.ref w7), (.ref w8), (.ref w9), (.ref w10), (.ref w11), .null, .null, .null, .null, .null, .null, .null, .null, .null, .null, .null] .null := V_b1
  have N49 := Fr.snoc X49 N45 g_b1
  obtain ⟨T51, X51, e51, st51⟩ := getS2 X49 hx hZ hown (host := "") (Or.inl (hw _ (List.mem_of_getElem? (i := 28) rfl))) Via.refl e49 (S_12.ext O.2) (g := (mkF m 86 #[.val (.int x1), .val (.int x2), .unset, .unset, .unset, .unset, .unset, .unset] [(.int (12 : Int32)), (.ref b1), (.ref b1)])) rfl (hb hby at_86)
  obtain ⟨cl52, Ar52, q52, S52, M52, H52, G52⟩ := id V_b1
  have hin52 : ¬ ((12 : Int32) < 0 ∨ cl52.slots.size ≤ ((12 : Int32)).toNatClampNeg) := inb_of S52 ⟨by decide, by decide⟩
  obtain ⟨T53, h53, X53, e53, W53, st53⟩ := stR X51 hx hZ e51 Ar52 (j := (12 : Int32)) hin52 rfl (Sto.ofV Ar52 q52 O1 (Ins.self (EX12.ext O.2))) (g := (mkF m 89 #[.val (.int x1), .val (.int x2), .unset, .unset, .unset, .unset, .unset, .unset] [(.ref w12), (.int (12 : Int32)), (.ref b1), (.ref b1)])) rfl rfl (hb hby at_89)
  have O := O.wr W53 g_b1
  have Z54 : n0 ≤ h53.size := Nat.le_trans Z50 (Keep.of_wr W53).1
  have V_b1 := Arv.set Ar52 q52 S52 M52 H52 G52 rfl W53 12 rfl (Nat.le_of_ble_eq_true rfl)
  have V_b1 : Arv Z h53 b1 k1 (.object "com/example/vigilant_consumer/vigilantconsumer/ErrorCode") (23 : Int32) [(.ref w0), (.ref w1), (.ref w2), (.ref w3), (.ref w4), (.ref w5), (.ref w6), (.ref w7), (.ref w8), (.ref w9), (.ref w10), (.ref w11), (.ref w12), .null, .null, .null, .null, .null, .null, .null, .null, .null, .null] .null := V_b1
  have N53 := Fr.snoc X53 N49 g_b1
  obtain ⟨T55, X55, e55, st55⟩ := getS2 X53 hx hZ hown (host := "") (Or.inl (hw _ (List.mem_of_getElem? (i := 30) rfl))) Via.refl e53 (S_13.ext O.2) (g := (mkF m 93 #[.val (.int x1), .val (.int x2), .unset, .unset, .unset, .unset, .unset, .unset] [(.int (13 : Int32)), (.ref b1), (.ref b1)])) rfl (hb hby at_93)
  obtain ⟨cl56, Ar56, q56, S56, M56, H56, G56⟩ := id V_b1
  have hin56 : ¬ ((13 : Int32) < 0 ∨ cl56.slots.size ≤ ((13 : Int32)).toNatClampNeg) := inb_of S56 ⟨by decide, by decide⟩
  obtain ⟨T57, h57, X57, e57, W57, st57⟩ := stR X55 hx hZ e55 Ar56 (j := (13 : Int32)) hin56 rfl (Sto.ofV Ar56 q56 O1 (Ins.self (EX13.ext O.2))) (g := (mkF m 96 #[.val (.int x1), .val (.int x2), .unset, .unset, .unset, .unset, .unset, .unset] [(.ref w13), (.int (13 : Int32)), (.ref b1), (.ref b1)])) rfl rfl (hb hby at_96)
  have O := O.wr W57 g_b1
  have Z58 : n0 ≤ h57.size := Nat.le_trans Z54 (Keep.of_wr W57).1
  have V_b1 := Arv.set Ar56 q56 S56 M56 H56 G56 rfl W57 13 rfl (Nat.le_of_ble_eq_true rfl)
  have V_b1 : Arv Z h57 b1 k1 (.object "com/example/vigilant_consumer/vigilantconsumer/ErrorCode") (23 : Int32) [(.ref w0), (.ref w1), (.ref w2), (.ref w3), (.ref w4), (.ref w5), (.ref w6), (.ref w7), (.ref w8), (.ref w9), (.ref w10), (.ref w11), (.ref w12), (.ref w13), .null, .null, .null, .null, .null, .null, .null, .null, .null] .null := V_b1
  have N57 := Fr.snoc X57 N53 g_b1
  obtain ⟨T59, X59, e59, st59⟩ := getS2 X57 hx hZ hown (host := "") (Or.inl (hw _ (List.mem_of_getElem? (i := 32) rfl))) Via.refl e57 (S_14.ext O.2) (g := (mkF m 100 #[.val (.int x1), .val (.int x2), .unset, .unset, .unset, .unset, .unset, .unset] [(.int (14 : Int32)), (.ref b1), (.ref b1)])) rfl (hb hby at_100)
  obtain ⟨cl60, Ar60, q60, S60, M60, H60, G60⟩ := id V_b1
  have hin60 : ¬ ((14 : Int32) < 0 ∨ cl60.slots.size ≤ ((14 : Int32)).toNatClampNeg) := inb_of S60 ⟨by decide, by decide⟩
  obtain ⟨T61, h61, X61, e61, W61, st61⟩ := stR X59 hx hZ e59 Ar60 (j := (14 : Int32)) hin60 rfl (Sto.ofV Ar60 q60 O1 (Ins.self (EX14.ext O.2))) (g := (mkF m 103 #[.val (.int x1), .val (.int x2), .unset, .unset, .unset, .unset, .unset, .unset] [(.ref w14), (.int (14 : Int32)), (.ref b1), (.ref b1)])) rfl rfl (hb hby at_103)
  have O := O.wr W61 g_b1
  have Z62 : n0 ≤ h61.size := Nat.le_trans Z58 (Keep.of_wr W61).1
  have V_b1 := Arv.set Ar60 q60 S60 M60 H60 G60 rfl W61 14 rfl (Nat.le_of_ble_eq_true rfl)
  have V_b1 : Arv Z h61 b1 k1 (.object "com/example/vigilant_consumer/vigilantconsumer/ErrorCode") (23 : Int32) [(.ref w0), (.ref w1), (.ref w2), (.ref w3), (.ref w4), (.ref w5), (.ref w6), (.ref w7), (.ref w8), (.ref w9), (.ref w10), (.ref w11), (.ref w12), (.ref w13), (.ref w14), .null, .null, .null, .null, .null, .null, .null, .null] .null := V_b1
  have N61 := Fr.snoc X61 N57 g_b1
  obtain ⟨T63, X63, e63, st63⟩ := getS2 X61 hx hZ hown (host := "") (Or.inl (hw _ (List.mem_of_getElem? (i := 34) rfl))) Via.refl e61 (S_15.ext O.2) (g := (mkF m 107 #[.val (.int x1), .val (.int x2), .unset, .unset, .unset, .unset, .unset, .unset] [(.int (15 : Int32)), (.ref b1), (.ref b1)])) rfl (hb hby at_107)
  obtain ⟨cl64, Ar64, q64, S64, M64, H64, G64⟩ := id V_b1
  have hin64 : ¬ ((15 : Int32) < 0 ∨ cl64.slots.size ≤ ((15 : Int32)).toNatClampNeg) := inb_of S64 ⟨by decide, by decide⟩
  obtain ⟨T65, h65, X65, e65, W65, st65⟩ := stR X63 hx hZ e63 Ar64 (j := (15 : Int32)) hin64 rfl (Sto.ofV Ar64 q64 O1 (Ins.self (EX15.ext O.2))) (g := (mkF m 110 #[.val (.int x1), .val (.int x2), .unset, .unset, .unset, .unset, .unset, .unset] [(.ref w15), (.int (15 : Int32)), (.ref b1), (.ref b1)])) rfl rfl (hb hby at_110)
  have O := O.wr W65 g_b1
  have Z66 : n0 ≤ h65.size := Nat.le_trans Z62 (Keep.of_wr W65).1
  have V_b1 := Arv.set Ar64 q64 S64 M64 H64 G64 rfl W65 15 rfl (Nat.le_of_ble_eq_true rfl)
  have V_b1 : Arv Z h65 b1 k1 (.object "com/example/vigilant_consumer/vigilantconsumer/ErrorCode") (23 : Int32) [(.ref w0), (.ref w1), (.ref w2), (.ref w3), (.ref w4), (.ref w5), (.ref w6), (.ref w7), (.ref w8), (.ref w9), (.ref w10), (.ref w11), (.ref w12), (.ref w13), (.ref w14), (.ref w15), .null, .null, .null, .null, .null, .null, .null] .null := V_b1
  have N65 := Fr.snoc X65 N61 g_b1
  obtain ⟨T67, X67, e67, st67⟩ := getS2 X65 hx hZ hown (host := "") (Or.inl (hw _ (List.mem_of_getElem? (i := 36) rfl))) Via.refl e65 (S_16.ext O.2) (g := (mkF m 114 #[.val (.int x1), .val (.int x2), .unset, .unset, .unset, .unset, .unset, .unset] [(.int (16 : Int32)), (.ref b1), (.ref b1)])) rfl (hb hby at_114)
  obtain ⟨cl68, Ar68, q68, S68, M68, H68, G68⟩ := id V_b1
  have hin68 : ¬ ((16 : Int32) < 0 ∨ cl68.slots.size ≤ ((16 : Int32)).toNatClampNeg) := inb_of S68 ⟨by decide, by decide⟩
  obtain ⟨T69, h69, X69, e69, W69, st69⟩ := stR X67 hx hZ e67 Ar68 (j := (16 : Int32)) hin68 rfl (Sto.ofV Ar68 q68 O1 (Ins.self (EX16.ext O.2))) (g := (mkF m 117 #[.val (.int x1), .val (.int x2), .unset, .unset, .unset, .unset, .unset, .unset] [(.ref w16), (.int (16 : Int32)), (.ref b1), (.ref b1)])) rfl rfl (hb hby at_117)
  have O := O.wr W69 g_b1
  have Z70 : n0 ≤ h69.size := Nat.le_trans Z66 (Keep.of_wr W69).1
  have V_b1 := Arv.set Ar68 q68 S68 M68 H68 G68 rfl W69 16 rfl (Nat.le_of_ble_eq_true rfl)
  have V_b1 : Arv Z h69 b1 k1 (.object "com/example/vigilant_consumer/vigilantconsumer/ErrorCode") (23 : Int32) [(.ref w0), (.ref w1), (.ref w2), (.ref w3), (.ref w4), (.ref w5), (.ref w6), (.ref w7), (.ref w8), (.ref w9), (.ref w10), (.ref w11), (.ref w12), (.ref w13), (.ref w14), (.ref w15), (.ref w16), .null, .null, .null, .null, .null, .null] .null := V_b1
  have N69 := Fr.snoc X69 N65 g_b1
  obtain ⟨T71, X71, e71, st71⟩ := getS2 X69 hx hZ hown (host := "") (Or.inl (hw _ (List.mem_of_getElem? (i := 38) rfl))) Via.refl e69 (S_17.ext O.2) (g := (mkF m 121 #[.val (.int x1), .val (.int x2), .unset, .unset, .unset, .unset, .unset, .unset] [(.int (17 : Int32)), (.ref b1), (.ref b1)])) rfl (hb hby at_121)
  obtain ⟨cl72, Ar72, q72, S72, M72, H72, G72⟩ := id V_b1
  have hin72 : ¬ ((17 : Int32) < 0 ∨ cl72.slots.size ≤ ((17 : Int32)).toNatClampNeg) := inb_of S72 ⟨by decide, by decide⟩
  obtain ⟨T73, h73, X73, e73, W73, st73⟩ := stR X71 hx hZ e71 Ar72 (j := (17 : Int32)) hin72 rfl (Sto.ofV Ar72 q72 O1 (Ins.self (EX17.ext O.2))) (g := (mkF m 124 #[.val (.int x1), .val (.int x2), .unset, .unset, .unset, .unset, .unset, .unset] [(.ref w17), (.int (17 : Int32)), (.ref b1), (.ref b1)])) rfl rfl (hb hby at_124)
  have O := O.wr W73 g_b1
  have Z74 : n0 ≤ h73.size := Nat.le_trans Z70 (Keep.of_wr W73).1
  have V_b1 := Arv.set Ar72 q72 S72 M72 H72 G72 rfl W73 17 rfl (Nat.le_of_ble_eq_true rfl)
  have V_b1 : Arv Z h73 b1 k1 (.object "com/example/vigilant_consumer/vigilantconsumer/ErrorCode") (23 : Int32) [(.ref w0), (.ref w1), (.ref w2), (.ref w3), (.ref w4), (.ref w5), (.ref w6), (.ref w7), (.ref w8), (.ref w9), (.ref w10), (.ref w11), (.ref w12), (.ref w13), (.ref w14), (.ref w15), (.ref w16), (.ref w17), .null, .null, .null, .null, .null] .null := V_b1
  have N73 := Fr.snoc X73 N69 g_b1
  obtain ⟨T75, X75, e75, st75⟩ := getS2 X73 hx hZ hown (host := "") (Or.inl (hw _ (List.mem_of_getElem? (i := 40) rfl))) Via.refl e73 (S_18.ext O.2) (g := (mkF m 128 #[.val (.int x1), .val (.int x2), .unset, .unset, .unset, .unset, .unset, .unset] [(.int (18 : Int32)), (.ref b1), (.ref b1)])) rfl (hb hby at_128)
  obtain ⟨cl76, Ar76, q76, S76, M76, H76, G76⟩ := id V_b1
  have hin76 : ¬ ((18 : Int32) < 0 ∨ cl76.slots.size ≤ ((18 : Int32)).toNatClampNeg) := inb_of S76 ⟨by decide, by decide⟩
  obtain ⟨T77, h77, X77, e77, W77, st77⟩ := stR X75 hx hZ e75 Ar76 (j := (18 : Int32)) hin76 rfl (Sto.ofV Ar76 q76 O1 (Ins.self (EX18.ext O.2))) (g := (mkF m 131 #[.val (.int x1), .val (.int x2), .unset, .unset, .unset, .unset, .unset, .unset] [(.ref w18), (.int (18 : Int32)), (.ref b1), (.ref b1)])) rfl rfl (hb hby at_131)
  have O := O.wr W77 g_b1
  have Z78 : n0 ≤ h77.size := Nat.le_trans Z74 (Keep.of_wr W77).1
  have V_b1 := Arv.set Ar76 q76 S76 M76 H76 G76 rfl W77 18 rfl (Nat.le_of_ble_eq_true rfl)
  have V_b1 : Arv Z h77 b1 k1 (.object "com/example/vigilant_consumer/vigilantconsumer/ErrorCode") (23 : Int32) [(.ref w0), (.ref w1), (.ref w2), (.ref w3), (.ref w4), (.ref w5), (.ref w6), (.ref w7), (.ref w8), (.ref w9), (.ref w10), (.ref w11), (.ref w12), (.ref w13), (.ref w14), (.ref w15), (.ref w16), (.ref w17), (.ref w18), .null, .null, .null, .null] .null := V_b1
  have N77 := Fr.snoc X77 N73 g_b1
  obtain ⟨T79, X79, e79, st79⟩ := getS2 X77 hx hZ hown (host := "") (Or.inl (hw _ (List.mem_of_getElem? (i := 42) rfl))) Via.refl e77 (S_19.ext O.2) (g := (mkF m 135 #[.val (.int x1), .val (.int x2), .unset, .unset, .unset, .unset, .unset, .unset] [(.int (19 : Int32)), (.ref b1), (.ref b1)])) rfl (hb hby at_135)
  obtain ⟨cl80, Ar80, q80, S80, M80, H80, G80⟩ := id V_b1
  have hin80 : ¬ ((19 : Int32) < 0 ∨ cl80.slots.size ≤ ((19 : Int32)).toNatClampNeg) := inb_of S80 ⟨by decide, by decide⟩
  obtain ⟨T81, h81, X81, e81, W81, st81⟩ := stR X79 hx hZ e79 Ar80 (j := (19 : Int32)) hin80 rfl (Sto.ofV Ar80 q80 O1 (Ins.self (EX19.ext O.2))) (g := (mkF m 138 #[.val (.int x1), .val (.int x2), .unset, .unset, .unset, .unset, .unset, .unset] [(.ref w19), (.int (19 : Int32)), (.ref b1), (.ref b1)])) rfl rfl (hb hby at_138)
  have O := O.wr W81 g_b1
  have Z82 : n0 ≤ h81.size := Nat.le_trans Z78 (Keep.of_wr W81).1
  have V_b1 := Arv.set Ar80 q80 S80 M80 H80 G80 rfl W81 19 rfl (Nat.le_of_ble_eq_true rfl)
  have V_b1 : Arv Z h81 b1 k1 (.object "com/example/vigilant_consumer/vigilantconsumer/ErrorCode") (23 : Int32) [(.ref w0), (.ref w1), (.ref w2), (.ref w3), (.ref w4), (.ref w5), (.ref w6), (.ref w7), (.ref w8), (.ref w9), (.ref w10), (.ref w11), (.ref w12), (.ref w13), (.ref w14), (.ref w15), (.ref w16), (.ref w17), (.ref w18), (.ref w19), .null, .null, .null] .null := V_b1
  have N81 := Fr.snoc X81 N77 g_b1
  obtain ⟨T83, X83, e83, st83⟩ := getS2 X81 hx hZ hown (host := "") (Or.inl (hw _ (List.mem_of_getElem? (i := 44) rfl))) Via.refl e81 (S_20.ext O.2) (g := (mkF m 142 #[.val (.int x1), .val (.int x2), .unset, .unset, .unset, .unset, .unset, .unset] [(.int (20 : Int32)), (.ref b1), (.ref b1)])) rfl (hb hby at_142)
  obtain ⟨cl84, Ar84, q84, S84, M84, H84, G84⟩ := id V_b1
  have hin84 : ¬ ((20 : Int32) < 0 ∨ cl84.slots.size ≤ ((20 : Int32)).toNatClampNeg) := inb_of S84 ⟨by decide, by decide⟩
  obtain ⟨T85, h85, X85, e85, W85, st85⟩ := stR X83 hx hZ e83 Ar84 (j := (20 : Int32)) hin84 rfl (Sto.ofV Ar84 q84 O1 (Ins.self (EX20.ext O.2))) (g := (mkF m 145 #[.val (.int x1), .val (.int x2), .unset, .unset, .unset, .unset, .unset, .unset] [(.ref w20), (.int (20 : Int32)), (.ref b1), (.ref b1)])) rfl rfl (hb hby at_145)
  have O := O.wr W85 g_b1
  have Z86 : n0 ≤ h85.size := Nat.le_trans Z82 (Keep.of_wr W85).1
  have V_b1 := Arv.set Ar84 q84 S84 M84 H84 G84 rfl W85 20 rfl (Nat.le_of_ble_eq_true rfl)
  have V_b1 : Arv Z h85 b1 k1 (.object "com/example/vigilant_consumer/vigilantconsumer/ErrorCode") (23 : Int32) [(.ref w0), (.ref w1), (.ref w2), (.ref w3), (.ref w4), (.ref w5), (.ref w6), (.ref w7), (.ref w8), (.ref w9), (.ref w10), (.ref w11), (.ref w12), (.ref w13), (.ref w14), (.ref w15), (.ref w16), (.ref w17), (.ref w18), (.ref w19), (.ref w20), .null, .null] .null := V_b1
  have N85 := Fr.snoc X85 N81 g_b1
  obtain ⟨T87, X87, e87, st87⟩ := getS2 X85 hx hZ hown (host := "") (Or.inl (hw _ (List.mem_of_getElem? (i := 46) rfl))) Via.refl e85 (S_21.ext O.2) (g := (mkF m 149 #[.val (.int x1), .val (.int x2), .unset, .unset, .unset, .unset, .unset, .unset] [(.int (21 : Int32)), (.ref b1), (.ref b1)])) rfl (hb hby at_149)
  obtain ⟨cl88, Ar88, q88, S88, M88, H88, G88⟩ := id V_b1
  have hin88 : ¬ ((21 : Int32) < 0 ∨ cl88.slots.size ≤ ((21 : Int32)).toNatClampNeg) := inb_of S88 ⟨by decide, by decide⟩
  obtain ⟨T89, h89, X89, e89, W89, st89⟩ := stR X87 hx hZ e87 Ar88 (j := (21 : Int32)) hin88 rfl (Sto.ofV Ar88 q88 O1 (Ins.self (EX21.ext O.2))) (g := (mkF m 152 #[.val (.int x1), .val (.int x2), .unset, .unset, .unset, .unset, .unset, .unset] [(.ref w21), (.int (21 : Int32)), (.ref b1), (.ref b1)])) rfl rfl (hb hby at_152)
  have O := O.wr W89 g_b1
  have Z90 : n0 ≤ h89.size := Nat.le_trans Z86 (Keep.of_wr W89).1
  have V_b1 := Arv.set Ar88 q88 S88 M88 H88 G88 rfl W89 21 rfl (Nat.le_of_ble_eq_true rfl)
  have V_b1 : Arv Z h89 b1 k1 (.object "com/example/vigilant_consumer/vigilantconsumer/ErrorCode") (23 : Int32) [(.ref w0), (.ref w1), (.ref w2), (.ref w3), (.ref w4), (.ref w5), (.ref w6), (.ref w7), (.ref w8), (.ref w9), (.ref w10), (.ref w11), (.ref w12), (.ref w13), (.ref w14), (.ref w15), (.ref w16), (.ref w17), (.ref w18), (.ref w19), (.ref w20), (.ref w21), .null] .null := V_b1
  have N89 := Fr.snoc X89 N85 g_b1
  obtain ⟨T91, X91, e91, st91⟩ := getS2 X89 hx hZ hown (host := "") (Or.inl (hw _ (List.mem_of_getElem? (i := 48) rfl))) Via.refl e89 (S_22.ext O.2) (g := (mkF m 156 #[.val (.int x1), .val (.int x2), .unset, .unset, .unset, .unset, .unset, .unset] [(.int (22 : Int32)), (.ref b1), (.ref b1)])) rfl (hb hby at_156)
  obtain ⟨cl92, Ar92, q92, S92, M92, H92, G92⟩ := id V_b1
  have hin92 : ¬ ((22 : Int32) < 0 ∨ cl92.slots.size ≤ ((22 : Int32)).toNatClampNeg) := inb_of S92 ⟨by decide, by decide⟩
  obtain ⟨T93, h93, X93, e93, W93, st93⟩ := stR X91 hx hZ e91 Ar92 (j := (22 : Int32)) hin92 rfl (Sto.ofV Ar92 q92 O1 (Ins.self (EX22.ext O.2))) (g := (mkF m 159 #[.val (.int x1), .val (.int x2), .unset, .unset, .unset, .unset, .unset, .unset] [(.ref w22), (.int (22 : Int32)), (.ref b1), (.ref b1)])) rfl rfl (hb hby at_159)
  have O := O.wr W93 g_b1
  have Z94 : n0 ≤ h93.size := Nat.le_trans Z90 (Keep.of_wr W93).1
  have V_b1 := Arv.set Ar92 q92 S92 M92 H92 G92 rfl W93 22 rfl (Nat.le_of_ble_eq_true rfl)
  have V_b1 : Arv Z h93 b1 k1 (.object "com/example/vigilant_consumer/vigilantconsumer/ErrorCode") (23 : Int32) [(.ref w0), (.ref w1), (.ref w2), (.ref w3), (.ref w4), (.ref w5), (.ref w6), (.ref w7), (.ref w8), (.ref w9), (.ref w10), (.ref w11), (.ref w12), (.ref w13), (.ref w14), (.ref w15), (.ref w16), (.ref w17), (.ref w18), (.ref w19), (.ref w20), (.ref w21), (.ref w22)] .null := V_b1
  have N93 := Fr.snoc X93 N89 g_b1
  obtain ⟨LL95, X95, N95⟩ : ∃ L, Stand p l e room_1 s m #[(.int x1), (.int x2)] below meth c T93 L 1 23 ∧ Fr n0 L := ⟨_, X93, N93⟩
  have pre96 : ∀ t, Steps p.tables e below (T93.setTop (mkF m 164 #[.val (.int x1), .val (.int x2), .val (.ref b1), .val (.int (x1.toInt16.toInt32)), .unset, .unset, .unset, .unset] [])) t → Steps p.tables e below (s₁.setTop (entryFrame m #[(.int x1), (.int x2)] maxLocals)) t := fun t k => pre0 t (by
    show Steps p.tables e below (s₁.setTop (mkF m 0 #[.val (.int x1), .val (.int x2), .unset, .unset, .unset, .unset, .unset, .unset] [])) _
    refine XS.bipush X0.here hx rfl (hb hby at_0) ?_
    show Steps p.tables e below (s₁.setTop (mkF m 2 #[.val (.int x1), .val (.int x2), .unset, .unset, .unset, .unset, .unset, .unset] [(.int (23 : Int32))])) _
    refine st1 _ ?_
    show Steps p.tables e below (T1.setTop (mkF m 5 #[.val (.int x1), .val (.int x2), .unset, .unset, .unset, .unset, .unset, .unset] [(.ref b1)])) _
    refine XS.dup X1.here hx rfl (hb hby at_5) rfl rfl ?_
    show Steps p.tables e below (T1.setTop (mkF m 6 #[.val (.int x1), .val (.int x2), .unset, .unset, .unset, .unset, .unset, .unset] [(.ref b1), (.ref b1)])) _
    refine XS.iconst X1.here hx rfl (hb hby at_6) ?_
    show Steps p.tables e below (T1.setTop (mkF m 7 #[.val (.int x1), .val (.int x2), .unset, .unset, .unset, .unset, .unset, .unset] [(.int (0 : Int32)), (.ref b1), (.ref b1)])) _
    refine st3 _ ?_
    show Steps p.tables e below (T3.setTop (mkF m 10 #[.val (.int x1), .val (.int x2), .unset, .unset, .unset, .unset, .unset, .unset] [(.ref w0), (.int (0 : Int32)), (.ref b1), (.ref b1)])) _
    refine st5 _ ?_
    show Steps p.tables e below (T5.setTop (mkF m 11 #[.val (.int x1), .val (.int x2), .unset, .unset, .unset, .unset, .unset, .unset] [(.ref b1)])) _
    refine XS.dup X5.here hx rfl (hb hby at_11) rfl rfl ?_
    show Steps p.tables e below (T5.setTop (mkF m 12 #[.val (.int x1), .val (.int x2), .unset, .unset, .unset, .unset, .unset, .unset] [(.ref b1), (.ref b1)])) _
    refine XS.iconst X5.here hx rfl (hb hby at_12) ?_
    show Steps p.tables e below (T5.setTop (mkF m 13 #[.val (.int x1), .val (.int x2), .unset, .unset, .unset, .unset, .unset, .unset] [(.int (1 : Int32)), (.ref b1), (.ref b1)])) _
    refine st7 _ ?_
    show Steps p.tables e below (T7.setTop (mkF m 16 #[.val (.int x1), .val (.int x2), .unset, .unset, .unset, .unset, .unset, .unset] [(.ref w1), (.int (1 : Int32)), (.ref b1), (.ref b1)])) _
    refine st9 _ ?_
    show Steps p.tables e below (T9.setTop (mkF m 17 #[.val (.int x1), .val (.int x2), .unset, .unset, .unset, .unset, .unset, .unset] [(.ref b1)])) _
    refine XS.dup X9.here hx rfl (hb hby at_17) rfl rfl ?_
    show Steps p.tables e below (T9.setTop (mkF m 18 #[.val (.int x1), .val (.int x2), .unset, .unset, .unset, .unset, .unset, .unset] [(.ref b1), (.ref b1)])) _
    refine XS.iconst X9.here hx rfl (hb hby at_18) ?_
    show Steps p.tables e below (T9.setTop (mkF m 19 #[.val (.int x1), .val (.int x2), .unset, .unset, .unset, .unset, .unset, .unset] [(.int (2 : Int32)), (.ref b1), (.ref b1)])) _
    refine st11 _ ?_
    show Steps p.tables e below (T11.setTop (mkF m 22 #[.val (.int x1), .val (.int x2), .unset, .unset, .unset, .unset, .unset, .unset] [(.ref w2), (.int (2 : Int32)), (.ref b1), (.ref b1)])) _
    refine st13 _ ?_
    show Steps p.tables e below (T13.setTop (mkF m 23 #[.val (.int x1), .val (.int x2), .unset, .unset, .unset, .unset, .unset, .unset] [(.ref b1)])) _
    refine XS.dup X13.here hx rfl (hb hby at_23) rfl rfl ?_
    show Steps p.tables e below (T13.setTop (mkF m 24 #[.val (.int x1), .val (.int x2), .unset, .unset, .unset, .unset, .unset, .unset] [(.ref b1), (.ref b1)])) _
    refine XS.iconst X13.here hx rfl (hb hby at_24) ?_
    show Steps p.tables e below (T13.setTop (mkF m 25 #[.val (.int x1), .val (.int x2), .unset, .unset, .unset, .unset, .unset, .unset] [(.int (3 : Int32)), (.ref b1), (.ref b1)])) _
    refine st15 _ ?_
    show Steps p.tables e below (T15.setTop (mkF m 28 #[.val (.int x1), .val (.int x2), .unset, .unset, .unset, .unset, .unset, .unset] [(.ref w3), (.int (3 : Int32)), (.ref b1), (.ref b1)])) _
    refine st17 _ ?_
    show Steps p.tables e below (T17.setTop (mkF m 29 #[.val (.int x1), .val (.int x2), .unset, .unset, .unset, .unset, .unset, .unset] [(.ref b1)])) _
    refine XS.dup X17.here hx rfl (hb hby at_29) rfl rfl ?_
    show Steps p.tables e below (T17.setTop (mkF m 30 #[.val (.int x1), .val (.int x2), .unset, .unset, .unset, .unset, .unset, .unset] [(.ref b1), (.ref b1)])) _
    refine XS.iconst X17.here hx rfl (hb hby at_30) ?_
    show Steps p.tables e below (T17.setTop (mkF m 31 #[.val (.int x1), .val (.int x2), .unset, .unset, .unset, .unset, .unset, .unset] [(.int (4 : Int32)), (.ref b1), (.ref b1)])) _
    refine st19 _ ?_
    show Steps p.tables e below (T19.setTop (mkF m 34 #[.val (.int x1), .val (.int x2), .unset, .unset, .unset, .unset, .unset, .unset] [(.ref w4), (.int (4 : Int32)), (.ref b1), (.ref b1)])) _
    refine st21 _ ?_
    show Steps p.tables e below (T21.setTop (mkF m 35 #[.val (.int x1), .val (.int x2), .unset, .unset, .unset, .unset, .unset, .unset] [(.ref b1)])) _
    refine XS.dup X21.here hx rfl (hb hby at_35) rfl rfl ?_
    show Steps p.tables e below (T21.setTop (mkF m 36 #[.val (.int x1), .val (.int x2), .unset, .unset, .unset, .unset, .unset, .unset] [(.ref b1), (.ref b1)])) _
    refine XS.iconst X21.here hx rfl (hb hby at_36) ?_
    show Steps p.tables e below (T21.setTop (mkF m 37 #[.val (.int x1), .val (.int x2), .unset, .unset, .unset, .unset, .unset, .unset] [(.int (5 : Int32)), (.ref b1), (.ref b1)])) _
    refine st23 _ ?_
    show Steps p.tables e below (T23.setTop (mkF m 40 #[.val (.int x1), .val (.int x2), .unset, .unset, .unset, .unset, .unset, .unset] [(.ref w5), (.int (5 : Int32)), (.ref b1), (.ref b1)])) _
    refine st25 _ ?_
    show Steps p.tables e below (T25.setTop (mkF m 41 #[.val (.int x1), .val (.int x2), .unset, .unset, .unset, .unset, .unset, .unset] [(.ref b1)])) _
    refine XS.dup X25.here hx rfl (hb hby at_41) rfl rfl ?_
    show Steps p.tables e below (T25.setTop (mkF m 42 #[.val (.int x1), .val (.int x2), .unset, .unset, .unset, .unset, .unset, .unset] [(.ref b1), (.ref b1)])) _
    refine XS.bipush X25.here hx rfl (hb hby at_42) ?_
    show Steps p.tables e below (T25.setTop (mkF m 44 #[.val (.int x1), .val (.int x2), .unset, .unset, .unset, .unset, .unset, .unset] [(.int (6 : Int32)), (.ref b1), (.ref b1)])) _
    refine st27 _ ?_
    show Steps p.tables e below (T27.setTop (mkF m 47 #[.val (.int x1), .val (.int x2), .unset, .unset, .unset, .unset, .unset, .unset] [(.ref w6), (.int (6 : Int32)), (.ref b1), (.ref b1)])) _
    refine st29 _ ?_
    show Steps p.tables e below (T29.setTop (mkF m 48 #[.val (.int x1), .val (.int x2), .unset, .unset, .unset, .unset, .unset, .unset] [(.ref b1)])) _
    refine XS.dup X29.here hx rfl (hb hby at_48) rfl rfl ?_
    show Steps p.tables e below (T29.setTop (mkF m 49 #[.val (.int x1), .val (.int x2), .unset, .unset, .unset, .unset, .unset, .unset] [(.ref b1), (.ref b1)])) _
    refine XS.bipush X29.here hx rfl (hb hby at_49) ?_
    show Steps p.tables e below (T29.setTop (mkF m 51 #[.val (.int x1), .val (.int x2), .unset, .unset, .unset, .unset, .unset, .unset] [(.int (7 : Int32)), (.ref b1), (.ref b1)])) _
    refine st31 _ ?_
    show Steps p.tables e below (T31.setTop (mkF m 54 #[.val (.int x1), .val (.int x2), .unset, .unset, .unset, .unset, .unset, .unset] [(.ref w7), (.int (7 : Int32)), (.ref b1), (.ref b1)])) _
    refine st33 _ ?_
    show Steps p.tables e below (T33.setTop (mkF m 55 #[.val (.int x1), .val (.int x2), .unset, .unset, .unset, .unset, .unset, .unset] [(.ref b1)])) _
    refine XS.dup X33.here hx rfl (hb hby at_55) rfl rfl ?_
    show Steps p.tables e below (T33.setTop (mkF m 56 #[.val (.int x1), .val (.int x2), .unset, .unset, .unset, .unset, .unset, .unset] [(.ref b1), (.ref b1)])) _
    refine XS.bipush X33.here hx rfl (hb hby at_56) ?_
    show Steps p.tables e below (T33.setTop (mkF m 58 #[.val (.int x1), .val (.int x2), .unset, .unset, .unset, .unset, .unset, .unset] [(.int (8 : Int32)), (.ref b1), (.ref b1)])) _
    refine st35 _ ?_
    show Steps p.tables e below (T35.setTop (mkF m 61 #[.val (.int x1), .val (.int x2), .unset, .unset, .unset, .unset, .unset, .unset] [(.ref w8), (.int (8 : Int32)), (.ref b1), (.ref b1)])) _
    refine st37 _ ?_
    show Steps p.tables e below (T37.setTop (mkF m 62 #[.val (.int x1), .val (.int x2), .unset, .unset, .unset, .unset, .unset, .unset] [(.ref b1)])) _
    refine XS.dup X37.here hx rfl (hb hby at_62) rfl rfl ?_
    show Steps p.tables e below (T37.setTop (mkF m 63 #[.val (.int x1), .val (.int x2), .unset, .unset, .unset, .unset, .unset, .unset] [(.ref b1), (.ref b1)])) _
    refine XS.bipush X37.here hx rfl (hb hby at_63) ?_
    show Steps p.tables e below (T37.setTop (mkF m 65 #[.val (.int x1), .val (.int x2), .unset, .unset, .unset, .unset, .unset, .unset] [(.int (9 : Int32)), (.ref b1), (.ref b1)])) _
    refine st39 _ ?_
    show Steps p.tables e below (T39.setTop (mkF m 68 #[.val (.int x1), .val (.int x2), .unset, .unset, .unset, .unset, .unset, .unset] [(.ref w9), (.int (9 : Int32)), (.ref b1), (.ref b1)])) _
    refine st41 _ ?_
    show Steps p.tables e below (T41.setTop (mkF m 69 #[.val (.int x1), .val (.int x2), .unset, .unset, .unset, .unset, .unset, .unset] [(.ref b1)])) _
    refine XS.dup X41.here hx rfl (hb hby at_69) rfl rfl ?_
    show Steps p.tables e below (T41.setTop (mkF m 70 #[.val (.int x1), .val (.int x2), .unset, .unset, .unset, .unset, .unset, .unset] [(.ref b1), (.ref b1)])) _
    refine XS.bipush X41.here hx rfl (hb hby at_70) ?_
    show Steps p.tables e below (T41.setTop (mkF m 72 #[.val (.int x1), .val (.int x2), .unset, .unset, .unset, .unset, .unset, .unset] [(.int (10 : Int32)), (.ref b1), (.ref b1)])) _
    refine st43 _ ?_
    show Steps p.tables e below (T43.setTop (mkF m 75 #[.val (.int x1), .val (.int x2), .unset, .unset, .unset, .unset, .unset, .unset] [(.ref w10), (.int (10 : Int32)), (.ref b1), (.ref b1)])) _
    refine st45 _ ?_
    show Steps p.tables e below (T45.setTop (mkF m 76 #[.val (.int x1), .val (.int x2), .unset, .unset, .unset, .unset, .unset, .unset] [(.ref b1)])) _
    refine XS.dup X45.here hx rfl (hb hby at_76) rfl rfl ?_
    show Steps p.tables e below (T45.setTop (mkF m 77 #[.val (.int x1), .val (.int x2), .unset, .unset, .unset, .unset, .unset, .unset] [(.ref b1), (.ref b1)])) _
    refine XS.bipush X45.here hx rfl (hb hby at_77) ?_
    show Steps p.tables e below (T45.setTop (mkF m 79 #[.val (.int x1), .val (.int x2), .unset, .unset, .unset, .unset, .unset, .unset] [(.int (11 : Int32)), (.ref b1), (.ref b1)])) _
    refine st47 _ ?_
    show Steps p.tables e below (T47.setTop (mkF m 82 #[.val (.int x1), .val (.int x2), .unset, .unset, .unset, .unset, .unset, .unset] [(.ref w11), (.int (11 : Int32)), (.ref b1), (.ref b1)])) _
    refine st49 _ ?_
    show Steps p.tables e below (T49.setTop (mkF m 83 #[.val (.int x1), .val (.int x2), .unset, .unset, .unset, .unset, .unset, .unset] [(.ref b1)])) _
    refine XS.dup X49.here hx rfl (hb hby at_83) rfl rfl ?_
    show Steps p.tables e below (T49.setTop (mkF m 84 #[.val (.int x1), .val (.int x2), .unset, .unset, .unset, .unset, .unset, .unset] [(.ref b1), (.ref b1)])) _
    refine XS.bipush X49.here hx rfl (hb hby at_84) ?_
    show Steps p.tables e below (T49.setTop (mkF m 86 #[.val (.int x1), .val (.int x2), .unset, .unset, .unset, .unset, .unset, .unset] [(.int (12 : Int32)), (.ref b1), (.ref b1)])) _
    refine st51 _ ?_
    show Steps p.tables e below (T51.setTop (mkF m 89 #[.val (.int x1), .val (.int x2), .unset, .unset, .unset, .unset, .unset, .unset] [(.ref w12), (.int (12 : Int32)), (.ref b1), (.ref b1)])) _
    refine st53 _ ?_
    show Steps p.tables e below (T53.setTop (mkF m 90 #[.val (.int x1), .val (.int x2), .unset, .unset, .unset, .unset, .unset, .unset] [(.ref b1)])) _
    refine XS.dup X53.here hx rfl (hb hby at_90) rfl rfl ?_
    show Steps p.tables e below (T53.setTop (mkF m 91 #[.val (.int x1), .val (.int x2), .unset, .unset, .unset, .unset, .unset, .unset] [(.ref b1), (.ref b1)])) _
    refine XS.bipush X53.here hx rfl (hb hby at_91) ?_
    show Steps p.tables e below (T53.setTop (mkF m 93 #[.val (.int x1), .val (.int x2), .unset, .unset, .unset, .unset, .unset, .unset] [(.int (13 : Int32)), (.ref b1), (.ref b1)])) _
    refine st55 _ ?_
    show Steps p.tables e below (T55.setTop (mkF m 96 #[.val (.int x1), .val (.int x2), .unset, .unset, .unset, .unset, .unset, .unset] [(.ref w13), (.int (13 : Int32)), (.ref b1), (.ref b1)])) _
    refine st57 _ ?_
    show Steps p.tables e below (T57.setTop (mkF m 97 #[.val (.int x1), .val (.int x2), .unset, .unset, .unset, .unset, .unset, .unset] [(.ref b1)])) _
    refine XS.dup X57.here hx rfl (hb hby at_97) rfl rfl ?_
    show Steps p.tables e below (T57.setTop (mkF m 98 #[.val (.int x1), .val (.int x2), .unset, .unset, .unset, .unset, .unset, .unset] [(.ref b1), (.ref b1)])) _
    refine XS.bipush X57.here hx rfl (hb hby at_98) ?_
    show Steps p.tables e below (T57.setTop (mkF m 100 #[.val (.int x1), .val (.int x2), .unset, .unset, .unset, .unset, .unset, .unset] [(.int (14 : Int32)), (.ref b1), (.ref b1)])) _
    refine st59 _ ?_
    show Steps p.tables e below (T59.setTop (mkF m 103 #[.val (.int x1), .val (.int x2), .unset, .unset, .unset, .unset, .unset, .unset] [(.ref w14), (.int (14 : Int32)), (.ref b1), (.ref b1)])) _
    refine st61 _ ?_
    show Steps p.tables e below (T61.setTop (mkF m 104 #[.val (.int x1), .val (.int x2), .unset, .unset, .unset, .unset, .unset, .unset] [(.ref b1)])) _
    refine XS.dup X61.here hx rfl (hb hby at_104) rfl rfl ?_
    show Steps p.tables e below (T61.setTop (mkF m 105 #[.val (.int x1), .val (.int x2), .unset, .unset, .unset, .unset, .unset, .unset] [(.ref b1), (.ref b1)])) _
    refine XS.bipush X61.here hx rfl (hb hby at_105) ?_
    show Steps p.tables e below (T61.setTop (mkF m 107 #[.val (.int x1), .val (.int x2), .unset, .unset, .unset, .unset, .unset, .unset] [(.int (15 : Int32)), (.ref b1), (.ref b1)])) _
    refine st63 _ ?_
    show Steps p.tables e below (T63.setTop (mkF m 110 #[.val (.int x1), .val (.int x2), .unset, .unset, .unset, .unset, .unset, .unset] [(.ref w15), (.int (15 : Int32)), (.ref b1), (.ref b1)])) _
    refine st65 _ ?_
    show Steps p.tables e below (T65.setTop (mkF m 111 #[.val (.int x1), .val (.int x2), .unset, .unset, .unset, .unset, .unset, .unset] [(.ref b1)])) _
    refine XS.dup X65.here hx rfl (hb hby at_111) rfl rfl ?_
    show Steps p.tables e below (T65.setTop (mkF m 112 #[.val (.int x1), .val (.int x2), .unset, .unset, .unset, .unset, .unset, .unset] [(.ref b1), (.ref b1)])) _
    refine XS.bipush X65.here hx rfl (hb hby at_112) ?_
    show Steps p.tables e below (T65.setTop (mkF m 114 #[.val (.int x1), .val (.int x2), .unset, .unset, .unset, .unset, .unset, .unset] [(.int (16 : Int32)), (.ref b1), (.ref b1)])) _
    refine st67 _ ?_
    show Steps p.tables e below (T67.setTop (mkF m 117 #[.val (.int x1), .val (.int x2), .unset, .unset, .unset, .unset, .unset, .unset] [(.ref w16), (.int (16 : Int32)), (.ref b1), (.ref b1)])) _
    refine st69 _ ?_
    show Steps p.tables e below (T69.setTop (mkF m 118 #[.val (.int x1), .val (.int x2), .unset, .unset, .unset, .unset, .unset, .unset] [(.ref b1)])) _
    refine XS.dup X69.here hx rfl (hb hby at_118) rfl rfl ?_
    show Steps p.tables e below (T69.setTop (mkF m 119 #[.val (.int x1), .val (.int x2), .unset, .unset, .unset, .unset, .unset, .unset] [(.ref b1), (.ref b1)])) _
    refine XS.bipush X69.here hx rfl (hb hby at_119) ?_
    show Steps p.tables e below (T69.setTop (mkF m 121 #[.val (.int x1), .val (.int x2), .unset, .unset, .unset, .unset, .unset, .unset] [(.int (17 : Int32)), (.ref b1), (.ref b1)])) _
    refine st71 _ ?_
    show Steps p.tables e below (T71.setTop (mkF m 124 #[.val (.int x1), .val (.int x2), .unset, .unset, .unset, .unset, .unset, .unset] [(.ref w17), (.int (17 : Int32)), (.ref b1), (.ref b1)])) _
    refine st73 _ ?_
    show Steps p.tables e below (T73.setTop (mkF m 125 #[.val (.int x1), .val (.int x2), .unset, .unset, .unset, .unset, .unset, .unset] [(.ref b1)])) _
    refine XS.dup X73.here hx rfl (hb hby at_125) rfl rfl ?_
    show Steps p.tables e below (T73.setTop (mkF m 126 #[.val (.int x1), .val (.int x2), .unset, .unset, .unset, .unset, .unset, .unset] [(.ref b1), (.ref b1)])) _
    refine XS.bipush X73.here hx rfl (hb hby at_126) ?_
    show Steps p.tables e below (T73.setTop (mkF m 128 #[.val (.int x1), .val (.int x2), .unset, .unset, .unset, .unset, .unset, .unset] [(.int (18 : Int32)), (.ref b1), (.ref b1)])) _
    refine st75 _ ?_
    show Steps p.tables e below (T75.setTop (mkF m 131 #[.val (.int x1), .val (.int x2), .unset, .unset, .unset, .unset, .unset, .unset] [(.ref w18), (.int (18 : Int32)), (.ref b1), (.ref b1)])) _
    refine st77 _ ?_
    show Steps p.tables e below (T77.setTop (mkF m 132 #[.val (.int x1), .val (.int x2), .unset, .unset, .unset, .unset, .unset, .unset] [(.ref b1)])) _
    refine XS.dup X77.here hx rfl (hb hby at_132) rfl rfl ?_
    show Steps p.tables e below (T77.setTop (mkF m 133 #[.val (.int x1), .val (.int x2), .unset, .unset, .unset, .unset, .unset, .unset] [(.ref b1), (.ref b1)])) _
    refine XS.bipush X77.here hx rfl (hb hby at_133) ?_
    show Steps p.tables e below (T77.setTop (mkF m 135 #[.val (.int x1), .val (.int x2), .unset, .unset, .unset, .unset, .unset, .unset] [(.int (19 : Int32)), (.ref b1), (.ref b1)])) _
    refine st79 _ ?_
    show Steps p.tables e below (T79.setTop (mkF m 138 #[.val (.int x1), .val (.int x2), .unset, .unset, .unset, .unset, .unset, .unset] [(.ref w19), (.int (19 : Int32)), (.ref b1), (.ref b1)])) _
    refine st81 _ ?_
    show Steps p.tables e below (T81.setTop (mkF m 139 #[.val (.int x1), .val (.int x2), .unset, .unset, .unset, .unset, .unset, .unset] [(.ref b1)])) _
    refine XS.dup X81.here hx rfl (hb hby at_139) rfl rfl ?_
    show Steps p.tables e below (T81.setTop (mkF m 140 #[.val (.int x1), .val (.int x2), .unset, .unset, .unset, .unset, .unset, .unset] [(.ref b1), (.ref b1)])) _
    refine XS.bipush X81.here hx rfl (hb hby at_140) ?_
    show Steps p.tables e below (T81.setTop (mkF m 142 #[.val (.int x1), .val (.int x2), .unset, .unset, .unset, .unset, .unset, .unset] [(.int (20 : Int32)), (.ref b1), (.ref b1)])) _
    refine st83 _ ?_
    show Steps p.tables e below (T83.setTop (mkF m 145 #[.val (.int x1), .val (.int x2), .unset, .unset, .unset, .unset, .unset, .unset] [(.ref w20), (.int (20 : Int32)), (.ref b1), (.ref b1)])) _
    refine st85 _ ?_
    show Steps p.tables e below (T85.setTop (mkF m 146 #[.val (.int x1), .val (.int x2), .unset, .unset, .unset, .unset, .unset, .unset] [(.ref b1)])) _
    refine XS.dup X85.here hx rfl (hb hby at_146) rfl rfl ?_
    show Steps p.tables e below (T85.setTop (mkF m 147 #[.val (.int x1), .val (.int x2), .unset, .unset, .unset, .unset, .unset, .unset] [(.ref b1), (.ref b1)])) _
    refine XS.bipush X85.here hx rfl (hb hby at_147) ?_
    show Steps p.tables e below (T85.setTop (mkF m 149 #[.val (.int x1), .val (.int x2), .unset, .unset, .unset, .unset, .unset, .unset] [(.int (21 : Int32)), (.ref b1), (.ref b1)])) _
    refine st87 _ ?_
    show Steps p.tables e below (T87.setTop (mkF m 152 #[.val (.int x1), .val (.int x2), .unset, .unset, .unset, .unset, .unset, .unset] [(.ref w21), (.int (21 : Int32)), (.ref b1), (.ref b1)])) _
    refine st89 _ ?_
    show Steps p.tables e below (T89.setTop (mkF m 153 #[.val (.int x1), .val (.int x2), .unset, .unset, .unset, .unset, .unset, .unset] [(.ref b1)])) _
    refine XS.dup X89.here hx rfl (hb hby at_153) rfl rfl ?_
    show Steps p.tables e below (T89.setTop (mkF m 154 #[.val (.int x1), .val (.int x2), .unset, .unset, .unset, .unset, .unset, .unset] [(.ref b1), (.ref b1)])) _
    refine XS.bipush X89.here hx rfl (hb hby at_154) ?_
    show Steps p.tables e below (T89.setTop (mkF m 156 #[.val (.int x1), .val (.int x2), .unset, .unset, .unset, .unset, .unset, .unset] [(.int (22 : Int32)), (.ref b1), (.ref b1)])) _
    refine st91 _ ?_
    show Steps p.tables e below (T91.setTop (mkF m 159 #[.val (.int x1), .val (.int x2), .unset, .unset, .unset, .unset, .unset, .unset] [(.ref w22), (.int (22 : Int32)), (.ref b1), (.ref b1)])) _
    refine st93 _ ?_
    show Steps p.tables e below (T93.setTop (mkF m 160 #[.val (.int x1), .val (.int x2), .unset, .unset, .unset, .unset, .unset, .unset] [(.ref b1)])) _
    refine XS.astoreN X93.here hx rfl (hb hby at_160) rfl rfl (l' := #[.val (.int x1), .val (.int x2), .val (.ref b1), .unset, .unset, .unset, .unset, .unset]) rfl ?_
    show Steps p.tables e below (T93.setTop (mkF m 161 #[.val (.int x1), .val (.int x2), .val (.ref b1), .unset, .unset, .unset, .unset, .unset] [])) _
    refine XS.iloadN X95.here hx rfl (hb hby at_161) rfl ?_
    show Steps p.tables e below (T93.setTop (mkF m 162 #[.val (.int x1), .val (.int x2), .val (.ref b1), .unset, .unset, .unset, .unset, .unset] [(.int x1)])) _
    refine XS.i2s X95.here hx rfl (hb hby at_162) rfl ?_
    show Steps p.tables e below (T93.setTop (mkF m 163 #[.val (.int x1), .val (.int x2), .val (.ref b1), .unset, .unset, .unset, .unset, .unset] [(.int (x1.toInt16.toInt32))])) _
    refine XS.istoreN X95.here hx rfl (hb hby at_163) rfl (l' := #[.val (.int x1), .val (.int x2), .val (.ref b1), .val (.int (x1.toInt16.toInt32)), .unset, .unset, .unset, .unset]) rfl ?_
    exact k)
  by_cases hc97 : own_ec (x1.toInt16.toInt32) [((0 : Int32), w0), ((1 : Int32), w1), ((3 : Int32), w2), ((5 : Int32), w3), ((6 : Int32), w4), ((9 : Int32), w5), ((14 : Int32), w6), ((15 : Int32), w7), ((16 : Int32), w8), ((22 : Int32), w9), ((23 : Int32), w10), ((25 : Int32), w11), ((26 : Int32), w12), ((27 : Int32), w13), ((29 : Int32), w14), ((30 : Int32), w15), ((35 : Int32), w16), ((42 : Int32), w17), ((56 : Int32), w18), ((74 : Int32), w19), ((75 : Int32), w20), ((78 : Int32), w21), ((79 : Int32), w22)] = .null
  · skip
    obtain ⟨_, _, ⟨T98, L98, k98, n98⟩, -, X98, ⟨Lc98, hQ98, l98, y98, z98⟩, st98⟩ := Jvm.LawKit.callS X95 hx (y := (⟨"com/example/vigilant_consumer/vigilantconsumer/ErrorCode", "of", "(S)Lcom/example/vigilant_consumer/vigilantconsumer/ErrorCode;"⟩ : MethodName)) hown (mvT hZ (hw _ (List.mem_of_getElem? (i := 50) rfl))) (mvT hZ (hw _ (List.mem_of_getElem? (i := 51) rfl))) (mvT hZ (hw _ (List.mem_of_getElem? (i := 3) rfl))) (mvT hZ (hw _ (List.mem_of_getElem? (i := 52) rfl))) (by decide) (backOf (W := 0) (own_of l Z a0 hw [] (x1.toInt16.toInt32) va kv w0 w1 w2 w3 w4 w5 w6 w7 w8 w9 w10 w11 w12 w13 w14 w15 w16 w17 w18 w19 w20 w21 w22 h93 n0 Z94 (S_V.ext O.2) (VV.ext O.2) (EV.ext O.2) (F0.ext O.2) (F1.ext O.2) (F2.ext O.2) (F3.ext O.2) (F4.ext O.2) (F5.ext O.2) (F6.ext O.2) (F7.ext O.2) (F8.ext O.2) (F9.ext O.2) (F10.ext O.2) (F11.ext O.2) (F12.ext O.2) (F13.ext O.2) (F14.ext O.2) (F15.ext O.2) (F16.ext O.2) (F17.ext O.2) (F18.ext O.2) (F19.ext O.2) (F20.ext O.2) (F21.ext O.2) (F22.ext O.2)) hZ (hw _ (List.mem_of_getElem? (i := 52) rfl)) (hw _ (List.mem_of_getElem? (i := 3) rfl)) (by decide) (by decide)) (g := (mkF m 165 #[.val (.int x1), .val (.int x2), .val (.ref b1), .val (.int (x1.toInt16.toInt32)), .unset, .unset, .unset, .unset] [(.int (x1.toInt16.toInt32))])) rfl (by rw [hml]; rfl) (argsL := [(.int (x1.toInt16.toInt32))]) (rest := []) (lenOf own_pd1 rfl) rfl (by show 2 * 0 + _ ≤ _; exact Nat.le_of_eq rfl) (hb hby at_165) (fun _ _ => ⟨rfl, e93, (by decide : 1 + 1 ≤ _), (by decide : 23 + 23 ≤ _)⟩)
    dsimp only [Pt.U, Pt.locs, Pt.cells, Pt.slots] at X98 l98 y98 z98 st98 hQ98
    subst l98 y98 z98
    obtain ⟨rv98, N98q, K98⟩ := hQ98
    rw [hc97] at rv98
    subst rv98
    have N98 := Fr.app N95 N98q
    have O := O.keep K98 all0
    have V_b1 := V_b1.keep K98 nin0
    have Z99 := Nat.le_trans Z94 K98.1
    obtain ⟨_, _, ⟨T100, L100, k100, n100⟩, -, X100, ⟨Lc100, hQ100, l100, y100, z100⟩, st100⟩ := Jvm.LawKit.callS X98 hx (y := (⟨"com/example/vigilant_consumer/vigilantconsumer/ErrorCodeOfPinLaw", "expected", "(I)Lcom/example/vigilant_consumer/vigilantconsumer/ErrorCode;"⟩ : MethodName)) hown (mvT hZ (hw _ (List.mem_of_getElem? (i := 70) rfl))) (mvT hZ (hw _ (List.mem_of_getElem? (i := 71) rfl))) (mvT hZ (hw _ (List.mem_of_getElem? (i := 72) rfl))) (mvT hZ (hw _ (List.mem_of_getElem? (i := 73) rfl))) (by decide) (backOf (W := 1) (own_exp l Z a0 hw [] (x1.toInt16.toInt32) w0 w1 w2 w3 w4 w5 w6 w7 w8 w9 w10 w11 w12 w13 w14 w15 w16 w17 w18 w19 w20 w21 w22 T98.heap n0 Z99 (S_0.ext O.2) (S_1.ext O.2) (S_2.ext O.2) (S_3.ext O.2) (S_4.ext O.2) (S_5.ext O.2) (S_6.ext O.2) (S_7.ext O.2) (S_8.ext O.2) (S_9.ext O.2) (S_10.ext O.2) (S_11.ext O.2) (S_12.ext O.2) (S_13.ext O.2) (S_14.ext O.2) (S_15.ext O.2) (S_16.ext O.2) (S_17.ext O.2) (S_18.ext O.2) (S_19.ext O.2) (S_20.ext O.2) (S_21.ext O.2) (S_22.ext O.2)) hZ (hw _ (List.mem_of_getElem? (i := 73) rfl)) (hw _ (List.mem_of_getElem? (i := 72) rfl)) (by decide) (by decide)) (g := (mkF m 173 #[.val (.int x1), .val (.int x2), .val (.ref b1), .val (.int (x1.toInt16.toInt32)), .val .null, .unset, .unset, .unset] [(.int (x1.toInt16.toInt32)), .null])) rfl (by rw [hml]; rfl) (argsL := [(.int (x1.toInt16.toInt32))]) (rest := [.null]) (lenOf own_pd2 rfl) rfl (by show 2 * 0 + _ ≤ _; exact Nat.le_of_eq rfl) (hb hby at_173) (fun _ _ => ⟨rfl, rfl, (by decide : 2 + 0 ≤ _), (by decide : 46 + 0 ≤ _)⟩)
    dsimp only [Pt.U, Pt.locs, Pt.cells, Pt.slots] at X100 l100 y100 z100 st100 hQ100
    subst l100 y100 z100
    obtain ⟨rv100, N100q, e100⟩ := hQ100
    rw [hc97] at rv100
    subst rv100
    have N100 := Fr.app N98 N100q
    obtain ⟨cl101, Ar101, q101, S101, M101, H101, G101⟩ := id V_b1
    have hin101 : ¬ (((x2 &&& (2147483647 : Int32)) % (23 : Int32)) < 0 ∨ cl101.slots.size ≤ (((x2 &&& (2147483647 : Int32)) % (23 : Int32))).toNatClampNeg) := inb_of S101 (own_idx x2)
    obtain ⟨kk, ee, hz, Fe, hec⟩ : ∃ (kk : Int32) (ee : Addr), [(Value.ref w0), (.ref w1), (.ref w2), (.ref w3), (.ref w4), (.ref w5), (.ref w6), (.ref w7), (.ref w8), (.ref w9), (.ref w10), (.ref w11), (.ref w12), (.ref w13), (.ref w14), (.ref w15), (.ref w16), (.ref w17), (.ref w18), (.ref w19), (.ref w20), (.ref w21), (.ref w22)].getD (((x2 &&& (2147483647 : Int32)) % (23 : Int32))).toNatClampNeg .null = .ref ee ∧ Fld Z Z.heap ee "com/example/vigilant_consumer/vigilantconsumer/ErrorCode" "code" "S" (.int kk) ∧ own_ec kk [((0 : Int32), w0), ((1 : Int32), w1), ((3 : Int32), w2), ((5 : Int32), w3), ((6 : Int32), w4), ((9 : Int32), w5), ((14 : Int32), w6), ((15 : Int32), w7), ((16 : Int32), w8), ((22 : Int32), w9), ((23 : Int32), w10), ((25 : Int32), w11), ((26 : Int32), w12), ((27 : Int32), w13), ((29 : Int32), w14), ((30 : Int32), w15), ((35 : Int32), w16), ((42 : Int32), w17), ((56 : Int32), w18), ((74 : Int32), w19), ((75 : Int32), w20), ((78 : Int32), w21), ((79 : Int32), w22)] = .ref ee := by
      have h1 := nat_of (own_idx x2).1
      have h2 := (own_idx x2).2
      rw [Int32.lt_iff_toInt_lt] at h2
      have h3 : (23 : Int32).toInt = 23 := rfl
      generalize (((x2 &&& (2147483647 : Int32)) % (23 : Int32))).toNatClampNeg = jj at h1 ⊢
      have h4 := own_lt23 jj (by omega)
      rcases h4 with h4 | h4 | h4 | h4 | h4 | h4 | h4 | h4 | h4 | h4 | h4 | h4 | h4 | h4 | h4 | h4 | h4 | h4 | h4 | h4 | h4 | h4 | h4
      · subst h4; exact ⟨_, _, rfl, F0, by rw [own_ec_pos rfl]⟩
      · subst h4; exact ⟨_, _, rfl, F1, by rw [own_ec_neg (by decide), own_ec_pos rfl]⟩
      · subst h4; exact ⟨_, _, rfl, F2, by rw [own_ec_neg (by decide), own_ec_neg (by decide), own_ec_pos rfl]⟩
      · subst h4; exact ⟨_, _, rfl, F3, by rw [own_ec_neg (by decide), own_ec_neg (by decide), own_ec_neg (by decide), own_ec_pos rfl]⟩
      · subst h4; exact ⟨_, _, rfl, F4, by rw [own_ec_neg (by decide), own_ec_neg (by decide), own_ec_neg (by decide), own_ec_neg (by decide), own_ec_pos rfl]⟩
      · subst h4; exact ⟨_, _, rfl, F5, by rw [own_ec_neg (by decide), own_ec_neg (by decide), own_ec_neg (by decide), own_ec_neg (by decide), own_ec_neg (by decide), own_ec_pos rfl]⟩
      · subst h4; exact ⟨_, _, rfl, F6, by rw [own_ec_neg (by decide), own_ec_neg (by decide), own_ec_neg (by decide), own_ec_neg (by decide), own_ec_neg (by decide), own_ec_neg (by decide), own_ec_pos rfl]⟩
      · subst h4; exact ⟨_, _, rfl, F7, by rw [own_ec_neg (by decide), own_ec_neg (by decide), own_ec_neg (by decide), own_ec_neg (by decide), own_ec_neg (by decide), own_ec_neg (by decide), own_ec_neg (by decide), own_ec_pos rfl]⟩
      · subst h4; exact ⟨_, _, rfl, F8, by rw [own_ec_neg (by decide), own_ec_neg (by decide), own_ec_neg (by decide), own_ec_neg (by decide), own_ec_neg (by decide), own_ec_neg (by decide), own_ec_neg (by decide), own_ec_neg (by decide), own_ec_pos rfl]⟩
      · subst h4; exact ⟨_, _, rfl, F9, by rw [own_ec_neg (by decide), own_ec_neg (by decide), own_ec_neg (by decide), own_ec_neg (by decide), own_ec_neg (by decide), own_ec_neg (by decide), own_ec_neg (by decide), own_ec_neg (by decide), own_ec_neg (by decide), own_ec_pos rfl]⟩
      · subst h4; exact ⟨_, _, rfl, F10, by rw [own_ec_neg (by decide), own_ec_neg (by decide), own_ec_neg (by decide), own_ec_neg (by decide), own_ec_neg (by decide), own_ec_neg (by decide), own_ec_neg (by decide), own_ec_neg (by decide), own_ec_neg (by decide), own_ec_neg (by decide), own_ec_pos rfl]⟩
      · subst h4; exact ⟨_, _, rfl, F11, by rw [own_ec_neg (by decide), own_ec_neg (by decide), own_ec_neg (by decide), own_ec_neg (by decide), own_ec_neg (by decide), own_ec_neg (by decide), own_ec_neg (by decide), own_ec_neg (by decide), own_ec_neg (by decide), own_ec_neg (by decide), own_ec_neg (by decide), own_ec_pos rfl]⟩
      · subst h4; exact ⟨_, _, rfl, F12, by rw [own_ec_neg (by decide), own_ec_neg (by decide), own_ec_neg (by decide), own_ec_neg (by decide), own_ec_neg (by decide), own_ec_neg (by decide), own_ec_neg (by decide), own_ec_neg (by decide), own_ec_neg (by decide), own_ec_neg (by decide), own_ec_neg (by decide), own_ec_neg (by decide), own_ec_pos rfl]⟩
      · subst h4; exact ⟨_, _, rfl, F13, by rw [own_ec_neg (by decide), own_ec_neg (by decide), own_ec_neg (by decide), own_ec_neg (by decide), own_ec_neg (by decide), own_ec_neg (by decide), own_ec_neg (by decide), own_ec_neg (by decide), own_ec_neg (by decide), own_ec_neg (by decide), own_ec_neg (by decide), own_ec_neg (by decide), own_ec_neg (by decide), own_ec_pos rfl]⟩
      · subst h4; exact ⟨_, _, rfl, F14, by rw [own_ec_neg (by decide), own_ec_neg (by decide), own_ec_neg (by decide), own_ec_neg (by decide), own_ec_neg (by decide), own_ec_neg (by decide), own_ec_neg (by decide), own_ec_neg (by decide), own_ec_neg (by decide), own_ec_neg (by decide), own_ec_neg (by decide), own_ec_neg (by decide), own_ec_neg (by decide), own_ec_neg (by decide), own_ec_pos rfl]⟩
      · subst h4; exact ⟨_, _, rfl, F15, by rw [own_ec_neg (by decide), own_ec_neg (by decide), own_ec_neg (by decide), own_ec_neg (by decide), own_ec_neg (by decide), own_ec_neg (by decide), own_ec_neg (by decide), own_ec_neg (by decide), own_ec_neg (by decide), own_ec_neg (by decide), own_ec_neg (by decide), own_ec_neg (by decide), own_ec_neg (by decide), own_ec_neg (by decide), own_ec_neg (by decide), own_ec_pos rfl]⟩
      · subst h4; exact ⟨_, _, rfl, F16, by rw [own_ec_neg (by decide), own_ec_neg (by decide), own_ec_neg (by decide), own_ec_neg (by decide), own_ec_neg (by decide), own_ec_neg (by decide), own_ec_neg (by decide), own_ec_neg (by decide), own_ec_neg (by decide), own_ec_neg (by decide), own_ec_neg (by decide), own_ec_neg (by decide), own_ec_neg (by decide), own_ec_neg (by decide), own_ec_neg (by decide), own_ec_neg (by decide), own_ec_pos rfl]⟩
      · subst h4; exact ⟨_, _, rfl, F17, by rw [own_ec_neg (by decide), own_ec_neg (by decide), own_ec_neg (by decide), own_ec_neg (by decide), own_ec_neg (by decide), own_ec_neg (by decide), own_ec_neg (by decide), own_ec_neg (by decide), own_ec_neg (by decide), own_ec_neg (by decide), own_ec_neg (by decide), own_ec_neg (by decide), own_ec_neg (by decide), own_ec_neg (by decide), own_ec_neg (by decide), own_ec_neg (by decide), own_ec_neg (by decide), own_ec_pos rfl]⟩
      · subst h4; exact ⟨_, _, rfl, F18, by rw [own_ec_neg (by decide), own_ec_neg (by decide), own_ec_neg (by decide), own_ec_neg (by decide), own_ec_neg (by decide), own_ec_neg (by decide), own_ec_neg (by decide), own_ec_neg (by decide), own_ec_neg (by decide), own_ec_neg (by decide), own_ec_neg (by decide), own_ec_neg (by decide), own_ec_neg (by decide), own_ec_neg (by decide), own_ec_neg (by decide), own_ec_neg (by decide), own_ec_neg (by decide), own_ec_neg (by decide), own_ec_pos rfl]⟩
      · subst h4; exact ⟨_, _, rfl, F19, by rw [own_ec_neg (by decide), own_ec_neg (by decide), own_ec_neg (by decide), own_ec_neg (by decide), own_ec_neg (by decide), own_ec_neg (by decide), own_ec_neg (by decide), own_ec_neg (by decide), own_ec_neg (by decide), own_ec_neg (by decide), own_ec_neg (by decide), own_ec_neg (by decide), own_ec_neg (by decide), own_ec_neg (by decide), own_ec_neg (by decide), own_ec_neg (by decide), own_ec_neg (by decide), own_ec_neg (by decide), own_ec_neg (by decide), own_ec_pos rfl]⟩
      · subst h4; exact ⟨_, _, rfl, F20, by rw [own_ec_neg (by decide), own_ec_neg (by decide), own_ec_neg (by decide), own_ec_neg (by decide), own_ec_neg (by decide), own_ec_neg (by decide), own_ec_neg (by decide), own_ec_neg (by decide), own_ec_neg (by decide), own_ec_neg (by decide), own_ec_neg (by decide), own_ec_neg (by decide), own_ec_neg (by decide), own_ec_neg (by decide), own_ec_neg (by decide), own_ec_neg (by decide), own_ec_neg (by decide), own_ec_neg (by decide), own_ec_neg (by decide), own_ec_neg (by decide), own_ec_pos rfl]⟩
      · subst h4; exact ⟨_, _, rfl, F21, by rw [own_ec_neg (by decide), own_ec_neg (by decide), own_ec_neg (by decide), own_ec_neg (by decide), own_ec_neg (by decide), own_ec_neg (by decide), own_ec_neg (by decide), own_ec_neg (by decide), own_ec_neg (by decide), own_ec_neg (by decide), own_ec_neg (by decide), own_ec_neg (by decide), own_ec_neg (by decide), own_ec_neg (by decide), own_ec_neg (by decide), own_ec_neg (by decide), own_ec_neg (by decide), own_ec_neg (by decide), own_ec_neg (by decide), own_ec_neg (by decide), own_ec_neg (by decide), own_ec_pos rfl]⟩
      · subst h4; exact ⟨_, _, rfl, F22, by rw [own_ec_neg (by decide), own_ec_neg (by decide), own_ec_neg (by decide), own_ec_neg (by decide), own_ec_neg (by decide), own_ec_neg (by decide), own_ec_neg (by decide), own_ec_neg (by decide), own_ec_neg (by decide), own_ec_neg (by decide), own_ec_neg (by decide), own_ec_neg (by decide), own_ec_neg (by decide), own_ec_neg (by decide), own_ec_neg (by decide), own_ec_neg (by decide), own_ec_neg (by decide), own_ec_neg (by decide), own_ec_neg (by decide), own_ec_neg (by decide), own_ec_neg (by decide), own_ec_neg (by decide), own_ec_pos rfl]⟩
    obtain ⟨T102, X102, e102, st102⟩ := getF X100 hx hZ hown (host := "") (Or.inl (hw _ (List.mem_of_getElem? (i := 75) rfl))) Via.refl e100 (Fe.ext O.2) (g := (mkF m 199 #[.val (.int x1), .val (.int x2), .val (.ref b1), .val (.int (x1.toInt16.toInt32)), .val .null, .val (.int (1 : Int32)), .val (.ref ee), .unset] [(.ref ee)])) rfl rfl (hb hby at_199)
    obtain ⟨_, _, ⟨T103, L103, k103, n103⟩, -, X103, ⟨Lc103, hQ103, l103, y103, z103⟩, st103⟩ := Jvm.LawKit.callS X102 hx (y := (⟨"com/example/vigilant_consumer/vigilantconsumer/ErrorCode", "of", "(S)Lcom/example/vigilant_consumer/vigilantconsumer/ErrorCode;"⟩ : MethodName)) hown (mvT hZ (hw _ (List.mem_of_getElem? (i := 50) rfl))) (mvT hZ (hw _ (List.mem_of_getElem? (i := 51) rfl))) (mvT hZ (hw _ (List.mem_of_getElem? (i := 3) rfl))) (mvT hZ (hw _ (List.mem_of_getElem? (i := 52) rfl))) (by decide) (backOf (W := 0) (own_of l Z a0 hw [] kk va kv w0 w1 w2 w3 w4 w5 w6 w7 w8 w9 w10 w11 w12 w13 w14 w15 w16 w17 w18 w19 w20 w21 w22 T98.heap n0 Z99 (S_V.ext O.2) (VV.ext O.2) (EV.ext O.2) (F0.ext O.2) (F1.ext O.2) (F2.ext O.2) (F3.ext O.2) (F4.ext O.2) (F5.ext O.2) (F6.ext O.2) (F7.ext O.2) (F8.ext O.2) (F9.ext O.2) (F10.ext O.2) (F11.ext O.2) (F12.ext O.2) (F13.ext O.2) (F14.ext O.2) (F15.ext O.2) (F16.ext O.2) (F17.ext O.2) (F18.ext O.2) (F19.ext O.2) (F20.ext O.2) (F21.ext O.2) (F22.ext O.2)) hZ (hw _ (List.mem_of_getElem? (i := 52) rfl)) (hw _ (List.mem_of_getElem? (i := 3) rfl)) (by decide) (by decide)) (g := (mkF m 202 #[.val (.int x1), .val (.int x2), .val (.ref b1), .val (.int (x1.toInt16.toInt32)), .val .null, .val (.int (1 : Int32)), .val (.ref ee), .unset] [(.int kk)])) rfl (by rw [hml]; rfl) (argsL := [(.int kk)]) (rest := []) (lenOf own_pd1 rfl) rfl (by show 2 * 0 + _ ≤ _; exact Nat.le_of_eq rfl) (hb hby at_202) (fun _ _ => ⟨rfl, e102, (by decide : 2 + 1 ≤ _), (by decide : 46 + 23 ≤ _)⟩)
    dsimp only [Pt.U, Pt.locs, Pt.cells, Pt.slots] at X103 l103 y103 z103 st103 hQ103
    subst l103 y103 z103
    obtain ⟨rv103, N103q, K103⟩ := hQ103
    rw [hec] at rv103
    subst rv103
    have N103 := Fr.app N100 N103q
    have O := O.keep K103 all0
    have V_b1 := V_b1.keep K103 nin0
    have Z104 := Nat.le_trans Z99 K103.1
    obtain ⟨T105, X105, e105, st105⟩ := getF X103 hx hZ hown (host := "") (Or.inl (hw _ (List.mem_of_getElem? (i := 75) rfl))) Via.refl rfl (Fe.ext O.2) (g := (mkF m 212 #[.val (.int x1), .val (.int x2), .val (.ref b1), .val (.int (x1.toInt16.toInt32)), .val .null, .val (.int (1 : Int32)), .val (.ref ee), .unset] [(.ref ee)])) rfl rfl (hb hby at_212)
    obtain ⟨T106, X106, e106, st106⟩ := getF X105 hx hZ hown (host := "") (Or.inl (hw _ (List.mem_of_getElem? (i := 75) rfl))) Via.refl e105 (Fe.ext O.2) (g := (mkF m 218 #[.val (.int x1), .val (.int x2), .val (.ref b1), .val (.int (x1.toInt16.toInt32)), .val .null, .val (.int (1 : Int32)), .val (.ref ee), .unset] [(.ref ee), (.int (0 : Int32)), (.int kk)])) rfl rfl (hb hby at_218)
    obtain ⟨fs, hr, hrun, hended, hW, hsame⟩ := X106.leave (v := some (.int (1 : Int32))) (fun h => by rw [Bd.returns] at h; cases h)
    refine ⟨_, _, pre96 _ ?_, hrun, hended, _, _, rfl, ?_, ⟨_, rfl⟩, hW, hsame.mono (by decide) (by decide)⟩
    · show Steps p.tables e below (T93.setTop (mkF m 164 #[.val (.int x1), .val (.int x2), .val (.ref b1), .val (.int (x1.toInt16.toInt32)), .unset, .unset, .unset, .unset] [])) _
      refine XS.iloadN X95.here hx rfl (hb hby at_164) rfl ?_
      show Steps p.tables e below (T93.setTop (mkF m 165 #[.val (.int x1), .val (.int x2), .val (.ref b1), .val (.int (x1.toInt16.toInt32)), .unset, .unset, .unset, .unset] [(.int (x1.toInt16.toInt32))])) _
      refine st98 _ ?_
      show Steps p.tables e below (T98.setTop (mkF m 168 #[.val (.int x1), .val (.int x2), .val (.ref b1), .val (.int (x1.toInt16.toInt32)), .unset, .unset, .unset, .unset] [.null])) _
      refine XS.astore X98.here hx rfl (hb hby at_168) rfl rfl (l' := #[.val (.int x1), .val (.int x2), .val (.ref b1), .val (.int (x1.toInt16.toInt32)), .val .null, .unset, .unset, .unset]) rfl ?_
      show Steps p.tables e below (T98.setTop (mkF m 170 #[.val (.int x1), .val (.int x2), .val (.ref b1), .val (.int (x1.toInt16.toInt32)), .val .null, .unset, .unset, .unset] [])) _
      refine XS.aload X98.here hx rfl (hb hby at_170) rfl rfl ?_
      show Steps p.tables e below (T98.setTop (mkF m 172 #[.val (.int x1), .val (.int x2), .val (.ref b1), .val (.int (x1.toInt16.toInt32)), .val .null, .unset, .unset, .unset] [.null])) _
      refine XS.iloadN X98.here hx rfl (hb hby at_172) rfl ?_
      show Steps p.tables e below (T98.setTop (mkF m 173 #[.val (.int x1), .val (.int x2), .val (.ref b1), .val (.int (x1.toInt16.toInt32)), .val .null, .unset, .unset, .unset] [(.int (x1.toInt16.toInt32)), .null])) _
      refine st100 _ ?_
      show Steps p.tables e below (T100.setTop (mkF m 176 #[.val (.int x1), .val (.int x2), .val (.ref b1), .val (.int (x1.toInt16.toInt32)), .val .null, .unset, .unset, .unset] [.null, .null])) _
      refine Jvm.RoadKit.acmp (g := (mkF m 176 #[.val (.int x1), .val (.int x2), .val (.ref b1), .val (.int (x1.toInt16.toInt32)), .val .null, .unset, .unset, .unset] [.null, .null])) X100 hx rfl rfl rfl (pc0 := 176) (pc' := 179) (same := true) rfl (hb hby at_176) rfl (decide_eq_true rfl) (by decide) (by decide) ?_
      show Steps p.tables e below (T100.setTop (mkF m 179 #[.val (.int x1), .val (.int x2), .val (.ref b1), .val (.int (x1.toInt16.toInt32)), .val .null, .unset, .unset, .unset] [])) _
      refine XS.iconst X100.here hx rfl (hb hby at_179) ?_
      show Steps p.tables e below (T100.setTop (mkF m 180 #[.val (.int x1), .val (.int x2), .val (.ref b1), .val (.int (x1.toInt16.toInt32)), .val .null, .unset, .unset, .unset] [(.int (1 : Int32))])) _
      refine XS.goto X100.here hx rfl (pc0 := 180) (pc' := 184) rfl (hb hby at_180) (by decide) (by decide) ?_
      show Steps p.tables e below (T100.setTop (mkF m 184 #[.val (.int x1), .val (.int x2), .val (.ref b1), .val (.int (x1.toInt16.toInt32)), .val .null, .unset, .unset, .unset] [(.int (1 : Int32))])) _
      refine XS.istore X100.here hx rfl (hb hby at_184) rfl (l' := #[.val (.int x1), .val (.int x2), .val (.ref b1), .val (.int (x1.toInt16.toInt32)), .val .null, .val (.int (1 : Int32)), .unset, .unset]) rfl ?_
      show Steps p.tables e below (T100.setTop (mkF m 186 #[.val (.int x1), .val (.int x2), .val (.ref b1), .val (.int (x1.toInt16.toInt32)), .val .null, .val (.int (1 : Int32)), .unset, .unset] [])) _
      refine XS.aloadN X100.here hx rfl (hb hby at_186) rfl rfl ?_
      show Steps p.tables e below (T100.setTop (mkF m 187 #[.val (.int x1), .val (.int x2), .val (.ref b1), .val (.int (x1.toInt16.toInt32)), .val .null, .val (.int (1 : Int32)), .unset, .unset] [(.ref b1)])) _
      refine XS.iloadN X100.here hx rfl (hb hby at_187) rfl ?_
      show Steps p.tables e below (T100.setTop (mkF m 188 #[.val (.int x1), .val (.int x2), .val (.ref b1), .val (.int (x1.toInt16.toInt32)), .val .null, .val (.int (1 : Int32)), .unset, .unset] [(.int x2), (.ref b1)])) _
      refine X100.ldcInt hx hown (mvT hZ (hw _ (List.mem_of_getElem? (i := 74) rfl))) (g := (mkF m 188 #[.val (.int x1), .val (.int x2), .val (.ref b1), .val (.int (x1.toInt16.toInt32)), .val .null, .val (.int (1 : Int32)), .unset, .unset] [(.int x2), (.ref b1)])) rfl (hb hby at_188) _ ?_
      show Steps p.tables e below (T100.setTop (mkF m 190 #[.val (.int x1), .val (.int x2), .val (.ref b1), .val (.int (x1.toInt16.toInt32)), .val .null, .val (.int (1 : Int32)), .unset, .unset] [(.int (2147483647 : Int32)), (.int x2), (.ref b1)])) _
      refine XS.iand X100.here hx rfl (hb hby at_190) rfl ?_
      show Steps p.tables e below (T100.setTop (mkF m 191 #[.val (.int x1), .val (.int x2), .val (.ref b1), .val (.int (x1.toInt16.toInt32)), .val .null, .val (.int (1 : Int32)), .unset, .unset] [(.int (x2 &&& (2147483647 : Int32))), (.ref b1)])) _
      refine XS.bipush X100.here hx rfl (hb hby at_191) ?_
      show Steps p.tables e below (T100.setTop (mkF m 193 #[.val (.int x1), .val (.int x2), .val (.ref b1), .val (.int (x1.toInt16.toInt32)), .val .null, .val (.int (1 : Int32)), .unset, .unset] [(.int (23 : Int32)), (.int (x2 &&& (2147483647 : Int32))), (.ref b1)])) _
      refine iremM X100 hx rfl (hb hby at_193) rfl (by decide) ?_
      show Steps p.tables e below (T100.setTop (mkF m 194 #[.val (.int x1), .val (.int x2), .val (.ref b1), .val (.int (x1.toInt16.toInt32)), .val .null, .val (.int (1 : Int32)), .unset, .unset] [(.int ((x2 &&& (2147483647 : Int32)) % (23 : Int32))), (.ref b1)])) _
      refine X100.aaload hx (j := ((x2 &&& (2147483647 : Int32)) % (23 : Int32))) (v := (.ref ee)) (by rw [e100]; exact Ar101.1) (State.isArrayOf_alike hZ.alike Ar101.2.1) rfl Ar101.2.2 hin101 (H101.at hin101 hz) (g := (mkF m 194 #[.val (.int x1), .val (.int x2), .val (.ref b1), .val (.int (x1.toInt16.toInt32)), .val .null, .val (.int (1 : Int32)), .unset, .unset] [(.int ((x2 &&& (2147483647 : Int32)) % (23 : Int32))), (.ref b1)])) rfl rfl (hb hby at_194) _ ?_
      show Steps p.tables e below (T100.setTop (mkF m 195 #[.val (.int x1), .val (.int x2), .val (.ref b1), .val (.int (x1.toInt16.toInt32)), .val .null, .val (.int (1 : Int32)), .unset, .unset] [(.ref ee)])) _
      refine XS.astore X100.here hx rfl (hb hby at_195) rfl rfl (l' := #[.val (.int x1), .val (.int x2), .val (.ref b1), .val (.int (x1.toInt16.toInt32)), .val .null, .val (.int (1 : Int32)), .val (.ref ee), .unset]) rfl ?_
      show Steps p.tables e below (T100.setTop (mkF m 197 #[.val (.int x1), .val (.int x2), .val (.ref b1), .val (.int (x1.toInt16.toInt32)), .val .null, .val (.int (1 : Int32)), .val (.ref ee), .unset] [])) _
      refine XS.aload X100.here hx rfl (hb hby at_197) rfl rfl ?_
      show Steps p.tables e below (T100.setTop (mkF m 199 #[.val (.int x1), .val (.int x2), .val (.ref b1), .val (.int (x1.toInt16.toInt32)), .val .null, .val (.int (1 : Int32)), .val (.ref ee), .unset] [(.ref ee)])) _
      refine st102 _ ?_
      show Steps p.tables e below (T102.setTop (mkF m 202 #[.val (.int x1), .val (.int x2), .val (.ref b1), .val (.int (x1.toInt16.toInt32)), .val .null, .val (.int (1 : Int32)), .val (.ref ee), .unset] [(.int kk)])) _
      refine st103 _ ?_
      show Steps p.tables e below (T103.setTop (mkF m 205 #[.val (.int x1), .val (.int x2), .val (.ref b1), .val (.int (x1.toInt16.toInt32)), .val .null, .val (.int (1 : Int32)), .val (.ref ee), .unset] [(.ref ee)])) _
      refine XS.aload X103.here hx rfl (hb hby at_205) rfl rfl ?_
      show Steps p.tables e below (T103.setTop (mkF m 207 #[.val (.int x1), .val (.int x2), .val (.ref b1), .val (.int (x1.toInt16.toInt32)), .val .null, .val (.int (1 : Int32)), .val (.ref ee), .unset] [(.ref ee), (.ref ee)])) _
      refine Jvm.RoadKit.acmp (g := (mkF m 207 #[.val (.int x1), .val (.int x2), .val (.ref b1), .val (.int (x1.toInt16.toInt32)), .val .null, .val (.int (1 : Int32)), .val (.ref ee), .unset] [(.ref ee), (.ref ee)])) X103 hx rfl rfl rfl (pc0 := 207) (pc' := 210) (same := true) rfl (hb hby at_207) rfl (decide_eq_true rfl) (by decide) (by decide) ?_
      show Steps p.tables e below (T103.setTop (mkF m 210 #[.val (.int x1), .val (.int x2), .val (.ref b1), .val (.int (x1.toInt16.toInt32)), .val .null, .val (.int (1 : Int32)), .val (.ref ee), .unset] [])) _
      refine XS.aload X103.here hx rfl (hb hby at_210) rfl rfl ?_
      show Steps p.tables e below (T103.setTop (mkF m 212 #[.val (.int x1), .val (.int x2), .val (.ref b1), .val (.int (x1.toInt16.toInt32)), .val .null, .val (.int (1 : Int32)), .val (.ref ee), .unset] [(.ref ee)])) _
      refine st105 _ ?_
      show Steps p.tables e below (T105.setTop (mkF m 215 #[.val (.int x1), .val (.int x2), .val (.ref b1), .val (.int (x1.toInt16.toInt32)), .val .null, .val (.int (1 : Int32)), .val (.ref ee), .unset] [(.int kk)])) _
      refine XS.iconst X105.here hx rfl (hb hby at_215) ?_
      show Steps p.tables e below (T105.setTop (mkF m 216 #[.val (.int x1), .val (.int x2), .val (.ref b1), .val (.int (x1.toInt16.toInt32)), .val .null, .val (.int (1 : Int32)), .val (.ref ee), .unset] [(.int (0 : Int32)), (.int kk)])) _
      refine XS.aload X105.here hx rfl (hb hby at_216) rfl rfl ?_
      show Steps p.tables e below (T105.setTop (mkF m 218 #[.val (.int x1), .val (.int x2), .val (.ref b1), .val (.int (x1.toInt16.toInt32)), .val .null, .val (.int (1 : Int32)), .val (.ref ee), .unset] [(.ref ee), (.int (0 : Int32)), (.int kk)])) _
      refine st106 _ ?_
      show Steps p.tables e below (T106.setTop (mkF m 221 #[.val (.int x1), .val (.int x2), .val (.ref b1), .val (.int (x1.toInt16.toInt32)), .val .null, .val (.int (1 : Int32)), .val (.ref ee), .unset] [(.int kk), (.int (0 : Int32)), (.int kk)])) _
      refine XS.iadd X106.here hx rfl (hb hby at_221) rfl ?_
      show Steps p.tables e below (T106.setTop (mkF m 222 #[.val (.int x1), .val (.int x2), .val (.ref b1), .val (.int (x1.toInt16.toInt32)), .val .null, .val (.int (1 : Int32)), .val (.ref ee), .unset] [(.int ((0 : Int32) + kk)), (.int kk)])) _
      refine XS.icmpNo X106.here hx rfl (hb hby at_222) rfl (teq (by simp : kk = ((0 : Int32) + kk))).2 ?_
      show Steps p.tables e below (T106.setTop (mkF m 225 #[.val (.int x1), .val (.int x2), .val (.ref b1), .val (.int (x1.toInt16.toInt32)), .val .null, .val (.int (1 : Int32)), .val (.ref ee), .unset] [])) _
      refine XS.iconst X106.here hx rfl (hb hby at_225) ?_
      show Steps p.tables e below (T106.setTop (mkF m 226 #[.val (.int x1), .val (.int x2), .val (.ref b1), .val (.int (x1.toInt16.toInt32)), .val .null, .val (.int (1 : Int32)), .val (.ref ee), .unset] [(.int (1 : Int32))])) _
      refine XS.goto X106.here hx rfl (pc0 := 226) (pc' := 230) rfl (hb hby at_226) (by decide) (by decide) ?_
      show Steps p.tables e below (T106.setTop (mkF m 230 #[.val (.int x1), .val (.int x2), .val (.ref b1), .val (.int (x1.toInt16.toInt32)), .val .null, .val (.int (1 : Int32)), .val (.ref ee), .unset] [(.int (1 : Int32))])) _
      refine XS.istore X106.here hx rfl (hb hby at_230) rfl (l' := #[.val (.int x1), .val (.int x2), .val (.ref b1), .val (.int (x1.toInt16.toInt32)), .val .null, .val (.int (1 : Int32)), .val (.ref ee), .val (.int (1 : Int32))]) rfl ?_
      show Steps p.tables e below (T106.setTop (mkF m 232 #[.val (.int x1), .val (.int x2), .val (.ref b1), .val (.int (x1.toInt16.toInt32)), .val .null, .val (.int (1 : Int32)), .val (.ref ee), .val (.int (1 : Int32))] [])) _
      refine XS.iload X106.here hx rfl (hb hby at_232) rfl ?_
      show Steps p.tables e below (T106.setTop (mkF m 234 #[.val (.int x1), .val (.int x2), .val (.ref b1), .val (.int (x1.toInt16.toInt32)), .val .null, .val (.int (1 : Int32)), .val (.ref ee), .val (.int (1 : Int32))] [(.int (1 : Int32))])) _
      refine XS.ifNo X106.here hx rfl (hb hby at_234) rfl ((if0 _ _).trans (feq (by decide : ¬ ((1 : Int32) = (0 : Int32)))).1) ?_
      show Steps p.tables e below (T106.setTop (mkF m 237 #[.val (.int x1), .val (.int x2), .val (.ref b1), .val (.int (x1.toInt16.toInt32)), .val .null, .val (.int (1 : Int32)), .val (.ref ee), .val (.int (1 : Int32))] [])) _
      refine XS.iload X106.here hx rfl (hb hby at_237) rfl ?_
      show Steps p.tables e below (T106.setTop (mkF m 239 #[.val (.int x1), .val (.int x2), .val (.ref b1), .val (.int (x1.toInt16.toInt32)), .val .null, .val (.int (1 : Int32)), .val (.ref ee), .val (.int (1 : Int32))] [(.int (1 : Int32))])) _
      refine XS.ifNo X106.here hx rfl (hb hby at_239) rfl ((if0 _ _).trans (feq (by decide : ¬ ((1 : Int32) = (0 : Int32)))).1) ?_
      show Steps p.tables e below (T106.setTop (mkF m 242 #[.val (.int x1), .val (.int x2), .val (.ref b1), .val (.int (x1.toInt16.toInt32)), .val .null, .val (.int (1 : Int32)), .val (.ref ee), .val (.int (1 : Int32))] [])) _
      refine XS.iconst X106.here hx rfl (hb hby at_242) ?_
      show Steps p.tables e below (T106.setTop (mkF m 243 #[.val (.int x1), .val (.int x2), .val (.ref b1), .val (.int (x1.toInt16.toInt32)), .val .null, .val (.int (1 : Int32)), .val (.ref ee), .val (.int (1 : Int32))] [(.int (1 : Int32))])) _
      refine XS.goto X106.here hx rfl (pc0 := 243) (pc' := 247) rfl (hb hby at_243) (by decide) (by decide) ?_
      show Steps p.tables e below (T106.setTop (mkF m 247 #[.val (.int x1), .val (.int x2), .val (.ref b1), .val (.int (x1.toInt16.toInt32)), .val .null, .val (.int (1 : Int32)), .val (.ref ee), .val (.int (1 : Int32))] [(.int (1 : Int32))])) _
      exact retN X106 hx (t := .boolean) Bd.returns (by simp) (hb hby at_247) hr
    · show own_Q_own_law Z x1 x2 va kv w0 w1 w2 w3 w4 w5 w6 w7 w8 w9 w10 w11 w12 w13 w14 w15 w16 w17 w18 w19 w20 w21 w22 h0 n0 _ T106.heap _
      rw [e106]
      exact ⟨rfl, N103⟩
  · skip
    obtain ⟨ev, hev⟩ := own_ec_some hc97
    obtain ⟨_, _, ⟨T107, L107, k107, n107⟩, -, X107, ⟨Lc107, hQ107, l107, y107, z107⟩, st107⟩ := Jvm.LawKit.callS X95 hx (y := (⟨"com/example/vigilant_consumer/vigilantconsumer/ErrorCode", "of", "(S)Lcom/example/vigilant_consumer/vigilantconsumer/ErrorCode;"⟩ : MethodName)) hown (mvT hZ (hw _ (List.mem_of_getElem? (i := 50) rfl))) (mvT hZ (hw _ (List.mem_of_getElem? (i := 51) rfl))) (mvT hZ (hw _ (List.mem_of_getElem? (i := 3) rfl))) (mvT hZ (hw _ (List.mem_of_getElem? (i := 52) rfl))) (by decide) (backOf (W := 0) (own_of l Z a0 hw [] (x1.toInt16.toInt32) va kv w0 w1 w2 w3 w4 w5 w6 w7 w8 w9 w10 w11 w12 w13 w14 w15 w16 w17 w18 w19 w20 w21 w22 h93 n0 Z94 (S_V.ext O.2) (VV.ext O.2) (EV.ext O.2) (F0.ext O.2) (F1.ext O.2) (F2.ext O.2) (F3.ext O.2) (F4.ext O.2) (F5.ext O.2) (F6.ext O.2) (F7.ext O.2) (F8.ext O.2) (F9.ext O.2) (F10.ext O.2) (F11.ext O.2) (F12.ext O.2) (F13.ext O.2) (F14.ext O.2) (F15.ext O.2) (F16.ext O.2) (F17.ext O.2) (F18.ext O.2) (F19.ext O.2) (F20.ext O.2) (F21.ext O.2) (F22.ext O.2)) hZ (hw _ (List.mem_of_getElem? (i := 52) rfl)) (hw _ (List.mem_of_getElem? (i := 3) rfl)) (by decide) (by decide)) (g := (mkF m 165 #[.val (.int x1), .val (.int x2), .val (.ref b1), .val (.int (x1.toInt16.toInt32)), .unset, .unset, .unset, .unset] [(.int (x1.toInt16.toInt32))])) rfl (by rw [hml]; rfl) (argsL := [(.int (x1.toInt16.toInt32))]) (rest := []) (lenOf own_pd1 rfl) rfl (by show 2 * 0 + _ ≤ _; exact Nat.le_of_eq rfl) (hb hby at_165) (fun _ _ => ⟨rfl, e93, (by decide : 1 + 1 ≤ _), (by decide : 23 + 23 ≤ _)⟩)
    dsimp only [Pt.U, Pt.locs, Pt.cells, Pt.slots] at X107 l107 y107 z107 st107 hQ107
    subst l107 y107 z107
    obtain ⟨rv107, N107q, K107⟩ := hQ107
    rw [hev] at rv107
    subst rv107
    have N107 := Fr.app N95 N107q
    have O := O.keep K107 all0
    have V_b1 := V_b1.keep K107 nin0
    have Z108 := Nat.le_trans Z94 K107.1
    obtain ⟨_, _, ⟨T109, L109, k109, n109⟩, -, X109, ⟨Lc109, hQ109, l109, y109, z109⟩, st109⟩ := Jvm.LawKit.callS X107 hx (y := (⟨"com/example/vigilant_consumer/vigilantconsumer/ErrorCodeOfPinLaw", "expected", "(I)Lcom/example/vigilant_consumer/vigilantconsumer/ErrorCode;"⟩ : MethodName)) hown (mvT hZ (hw _ (List.mem_of_getElem? (i := 70) rfl))) (mvT hZ (hw _ (List.mem_of_getElem? (i := 71) rfl))) (mvT hZ (hw _ (List.mem_of_getElem? (i := 72) rfl))) (mvT hZ (hw _ (List.mem_of_getElem? (i := 73) rfl))) (by decide) (backOf (W := 1) (own_exp l Z a0 hw [] (x1.toInt16.toInt32) w0 w1 w2 w3 w4 w5 w6 w7 w8 w9 w10 w11 w12 w13 w14 w15 w16 w17 w18 w19 w20 w21 w22 T107.heap n0 Z108 (S_0.ext O.2) (S_1.ext O.2) (S_2.ext O.2) (S_3.ext O.2) (S_4.ext O.2) (S_5.ext O.2) (S_6.ext O.2) (S_7.ext O.2) (S_8.ext O.2) (S_9.ext O.2) (S_10.ext O.2) (S_11.ext O.2) (S_12.ext O.2) (S_13.ext O.2) (S_14.ext O.2) (S_15.ext O.2) (S_16.ext O.2) (S_17.ext O.2) (S_18.ext O.2) (S_19.ext O.2) (S_20.ext O.2) (S_21.ext O.2) (S_22.ext O.2)) hZ (hw _ (List.mem_of_getElem? (i := 73) rfl)) (hw _ (List.mem_of_getElem? (i := 72) rfl)) (by decide) (by decide)) (g := (mkF m 173 #[.val (.int x1), .val (.int x2), .val (.ref b1), .val (.int (x1.toInt16.toInt32)), .val (.ref ev), .unset, .unset, .unset] [(.int (x1.toInt16.toInt32)), (.ref ev)])) rfl (by rw [hml]; rfl) (argsL := [(.int (x1.toInt16.toInt32))]) (rest := [(.ref ev)]) (lenOf own_pd2 rfl) rfl (by show 2 * 0 + _ ≤ _; exact Nat.le_of_eq rfl) (hb hby at_173) (fun _ _ => ⟨rfl, rfl, (by decide : 2 + 0 ≤ _), (by decide : 46 + 0 ≤ _)⟩)
    dsimp only [Pt.U, Pt.locs, Pt.cells, Pt.slots] at X109 l109 y109 z109 st109 hQ109
    subst l109 y109 z109
    obtain ⟨rv109, N109q, e109⟩ := hQ109
    rw [hev] at rv109
    subst rv109
    have N109 := Fr.app N107 N109q
    obtain ⟨cl110, Ar110, q110, S110, M110, H110, G110⟩ := id V_b1
    have hin110 : ¬ (((x2 &&& (2147483647 : Int32)) % (23 : Int32)) < 0 ∨ cl110.slots.size ≤ (((x2 &&& (2147483647 : Int32)) % (23 : Int32))).toNatClampNeg) := inb_of S110 (own_idx x2)
    obtain ⟨kk, ee, hz, Fe, hec⟩ : ∃ (kk : Int32) (ee : Addr), [(Value.ref w0), (.ref w1), (.ref w2), (.ref w3), (.ref w4), (.ref w5), (.ref w6), (.ref w7), (.ref w8), (.ref w9), (.ref w10), (.ref w11), (.ref w12), (.ref w13), (.ref w14), (.ref w15), (.ref w16), (.ref w17), (.ref w18), (.ref w19), (.ref w20), (.ref w21), (.ref w22)].getD (((x2 &&& (2147483647 : Int32)) % (23 : Int32))).toNatClampNeg .null = .ref ee ∧ Fld Z Z.heap ee "com/example/vigilant_consumer/vigilantconsumer/ErrorCode" "code" "S" (.int kk) ∧ own_ec kk [((0 : Int32), w0), ((1 : Int32), w1), ((3 : Int32), w2), ((5 : Int32), w3), ((6 : Int32), w4), ((9 : Int32), w5), ((14 : Int32), w6), ((15 : Int32), w7), ((16 : Int32), w8), ((22 : Int32), w9), ((23 : Int32), w10), ((25 : Int32), w11), ((26 : Int32), w12), ((27 : Int32), w13), ((29 : Int32), w14), ((30 : Int32), w15), ((35 : Int32), w16), ((42 : Int32), w17), ((56 : Int32), w18), ((74 : Int32), w19), ((75 : Int32), w20), ((78 : Int32), w21), ((79 : Int32), w22)] = .ref ee := by
      have h1 := nat_of (own_idx x2).1
      have h2 := (own_idx x2).2
      rw [Int32.lt_iff_toInt_lt] at h2
      have h3 : (23 : Int32).toInt = 23 := rfl
      generalize (((x2 &&& (2147483647 : Int32)) % (23 : Int32))).toNatClampNeg = jj at h1 ⊢
      have h4 := own_lt23 jj (by omega)
      rcases h4 with h4 | h4 | h4 | h4 | h4 | h4 | h4 | h4 | h4 | h4 | h4 | h4 | h4 | h4 | h4 | h4 | h4 | h4 | h4 | h4 | h4 | h4 | h4
      · subst h4; exact ⟨_, _, rfl, F0, by rw [own_ec_pos rfl]⟩
      · subst h4; exact ⟨_, _, rfl, F1, by rw [own_ec_neg (by decide), own_ec_pos rfl]⟩
      · subst h4; exact ⟨_, _, rfl, F2, by rw [own_ec_neg (by decide), own_ec_neg (by decide), own_ec_pos rfl]⟩
      · subst h4; exact ⟨_, _, rfl, F3, by rw [own_ec_neg (by decide), own_ec_neg (by decide), own_ec_neg (by decide), own_ec_pos rfl]⟩
      · subst h4; exact ⟨_, _, rfl, F4, by rw [own_ec_neg (by decide), own_ec_neg (by decide), own_ec_neg (by decide), own_ec_neg (by decide), own_ec_pos rfl]⟩
      · subst h4; exact ⟨_, _, rfl, F5, by rw [own_ec_neg (by decide), own_ec_neg (by decide), own_ec_neg (by decide), own_ec_neg (by decide), own_ec_neg (by decide), own_ec_pos rfl]⟩
      · subst h4; exact ⟨_, _, rfl, F6, by rw [own_ec_neg (by decide), own_ec_neg (by decide), own_ec_neg (by decide), own_ec_neg (by decide), own_ec_neg (by decide), own_ec_neg (by decide), own_ec_pos rfl]⟩
      · subst h4; exact ⟨_, _, rfl, F7, by rw [own_ec_neg (by decide), own_ec_neg (by decide), own_ec_neg (by decide), own_ec_neg (by decide), own_ec_neg (by decide), own_ec_neg (by decide), own_ec_neg (by decide), own_ec_pos rfl]⟩
      · subst h4; exact ⟨_, _, rfl, F8, by rw [own_ec_neg (by decide), own_ec_neg (by decide), own_ec_neg (by decide), own_ec_neg (by decide), own_ec_neg (by decide), own_ec_neg (by decide), own_ec_neg (by decide), own_ec_neg (by decide), own_ec_pos rfl]⟩
      · subst h4; exact ⟨_, _, rfl, F9, by rw [own_ec_neg (by decide), own_ec_neg (by decide), own_ec_neg (by decide), own_ec_neg (by decide), own_ec_neg (by decide), own_ec_neg (by decide), own_ec_neg (by decide), own_ec_neg (by decide), own_ec_neg (by decide), own_ec_pos rfl]⟩
      · subst h4; exact ⟨_, _, rfl, F10, by rw [own_ec_neg (by decide), own_ec_neg (by decide), own_ec_neg (by decide), own_ec_neg (by decide), own_ec_neg (by decide), own_ec_neg (by decide), own_ec_neg (by decide), own_ec_neg (by decide), own_ec_neg (by decide), own_ec_neg (by decide), own_ec_pos rfl]⟩
      · subst h4; exact ⟨_, _, rfl, F11, by rw [own_ec_neg (by decide), own_ec_neg (by decide), own_ec_neg (by decide), own_ec_neg (by decide), own_ec_neg (by decide), own_ec_neg (by decide), own_ec_neg (by decide), own_ec_neg (by decide), own_ec_neg (by decide), own_ec_neg (by decide), own_ec_neg (by decide), own_ec_pos rfl]⟩
      · subst h4; exact ⟨_, _, rfl, F12, by rw [own_ec_neg (by decide), own_ec_neg (by decide), own_ec_neg (by decide), own_ec_neg (by decide), own_ec_neg (by decide), own_ec_neg (by decide), own_ec_neg (by decide), own_ec_neg (by decide), own_ec_neg (by decide), own_ec_neg (by decide), own_ec_neg (by decide), own_ec_neg (by decide), own_ec_pos rfl]⟩
      · subst h4; exact ⟨_, _, rfl, F13, by rw [own_ec_neg (by decide), own_ec_neg (by decide), own_ec_neg (by decide), own_ec_neg (by decide), own_ec_neg (by decide), own_ec_neg (by decide), own_ec_neg (by decide), own_ec_neg (by decide), own_ec_neg (by decide), own_ec_neg (by decide), own_ec_neg (by decide), own_ec_neg (by decide), own_ec_neg (by decide), own_ec_pos rfl]⟩
      · subst h4; exact ⟨_, _, rfl, F14, by rw [own_ec_neg (by decide), own_ec_neg (by decide), own_ec_neg (by decide), own_ec_neg (by decide), own_ec_neg (by decide), own_ec_neg (by decide), own_ec_neg (by decide), own_ec_neg (by decide), own_ec_neg (by decide), own_ec_neg (by decide), own_ec_neg (by decide), own_ec_neg (by decide), own_ec_neg (by decide), own_ec_neg (by decide), own_ec_pos rfl]⟩
      · subst h4; exact ⟨_, _, rfl, F15, by rw [own_ec_neg (by decide), own_ec_neg (by decide), own_ec_neg (by decide), own_ec_neg (by decide), own_ec_neg (by decide), own_ec_neg (by decide), own_ec_neg (by decide), own_ec_neg (by decide), own_ec_neg (by decide), own_ec_neg (by decide), own_ec_neg (by decide), own_ec_neg (by decide), own_ec_neg (by decide), own_ec_neg (by decide), own_ec_neg (by decide), own_ec_pos rfl]⟩
      · subst h4; exact ⟨_, _, rfl, F16, by rw [own_ec_neg (by decide), own_ec_neg (by decide), own_ec_neg (by decide), own_ec_neg (by decide), own_ec_neg (by decide), own_ec_neg (by decide), own_ec_neg (by decide), own_ec_neg (by decide), own_ec_neg (by decide), own_ec_neg (by decide), own_ec_neg (by decide), own_ec_neg (by decide), own_ec_neg (by decide), own_ec_neg (by decide), own_ec_neg (by decide), own_ec_neg (by decide), own_ec_pos rfl]⟩
      · subst h4; exact ⟨_, _, rfl, F17, by rw [own_ec_neg (by decide), own_ec_neg (by decide), own_ec_neg (by decide), own_ec_neg (by decide), own_ec_neg (by decide), own_ec_neg (by decide), own_ec_neg (by decide), own_ec_neg (by decide), own_ec_neg (by decide), own_ec_neg (by decide), own_ec_neg (by decide), own_ec_neg (by decide), own_ec_neg (by decide), own_ec_neg (by decide), own_ec_neg (by decide), own_ec_neg (by decide), own_ec_neg (by decide), own_ec_pos rfl]⟩
      · subst h4; exact ⟨_, _, rfl, F18, by rw [own_ec_neg (by decide), own_ec_neg (by decide), own_ec_neg (by decide), own_ec_neg (by decide), own_ec_neg (by decide), own_ec_neg (by decide), own_ec_neg (by decide), own_ec_neg (by decide), own_ec_neg (by decide), own_ec_neg (by decide), own_ec_neg (by decide), own_ec_neg (by decide), own_ec_neg (by decide), own_ec_neg (by decide), own_ec_neg (by decide), own_ec_neg (by decide), own_ec_neg (by decide), own_ec_neg (by decide), own_ec_pos rfl]⟩
      · subst h4; exact ⟨_, _, rfl, F19, by rw [own_ec_neg (by decide), own_ec_neg (by decide), own_ec_neg (by decide), own_ec_neg (by decide), own_ec_neg (by decide), own_ec_neg (by decide), own_ec_neg (by decide), own_ec_neg (by decide), own_ec_neg (by decide), own_ec_neg (by decide), own_ec_neg (by decide), own_ec_neg (by decide), own_ec_neg (by decide), own_ec_neg (by decide), own_ec_neg (by decide), own_ec_neg (by decide), own_ec_neg (by decide), own_ec_neg (by decide), own_ec_neg (by decide), own_ec_pos rfl]⟩
      · subst h4; exact ⟨_, _, rfl, F20, by rw [own_ec_neg (by decide), own_ec_neg (by decide), own_ec_neg (by decide), own_ec_neg (by decide), own_ec_neg (by decide), own_ec_neg (by decide), own_ec_neg (by decide), own_ec_neg (by decide), own_ec_neg (by decide), own_ec_neg (by decide), own_ec_neg (by decide), own_ec_neg (by decide), own_ec_neg (by decide), own_ec_neg (by decide), own_ec_neg (by decide), own_ec_neg (by decide), own_ec_neg (by decide), own_ec_neg (by decide), own_ec_neg (by decide), own_ec_neg (by decide), own_ec_pos rfl]⟩
      · subst h4; exact ⟨_, _, rfl, F21, by rw [own_ec_neg (by decide), own_ec_neg (by decide), own_ec_neg (by decide), own_ec_neg (by decide), own_ec_neg (by decide), own_ec_neg (by decide), own_ec_neg (by decide), own_ec_neg (by decide), own_ec_neg (by decide), own_ec_neg (by decide), own_ec_neg (by decide), own_ec_neg (by decide), own_ec_neg (by decide), own_ec_neg (by decide), own_ec_neg (by decide), own_ec_neg (by decide), own_ec_neg (by decide), own_ec_neg (by decide), own_ec_neg (by decide), own_ec_neg (by decide), own_ec_neg (by decide), own_ec_pos rfl]⟩
      · subst h4; exact ⟨_, _, rfl, F22, by rw [own_ec_neg (by decide), own_ec_neg (by decide), own_ec_neg (by decide), own_ec_neg (by decide), own_ec_neg (by decide), own_ec_neg (by decide), own_ec_neg (by decide), own_ec_neg (by decide), own_ec_neg (by decide), own_ec_neg (by decide), own_ec_neg (by decide), own_ec_neg (by decide), own_ec_neg (by decide), own_ec_neg (by decide), own_ec_neg (by decide), own_ec_neg (by decide), own_ec_neg (by decide), own_ec_neg (by decide), own_ec_neg (by decide), own_ec_neg (by decide), own_ec_neg (by decide), own_ec_neg (by decide), own_ec_pos rfl]⟩
    obtain ⟨T111, X111, e111, st111⟩ := getF X109 hx hZ hown (host := "") (Or.inl (hw _ (List.mem_of_getElem? (i := 75) rfl))) Via.refl e109 (Fe.ext O.2) (g := (mkF m 199 #[.val (.int x1), .val (.int x2), .val (.ref b1), .val (.int (x1.toInt16.toInt32)), .val (.ref ev), .val (.int (1 : Int32)), .val (.ref ee), .unset] [(.ref ee)])) rfl rfl (hb hby at_199)
    obtain ⟨_, _, ⟨T112, L112, k112, n112⟩, -, X112, ⟨Lc112, hQ112, l112, y112, z112⟩, st112⟩ := Jvm.LawKit.callS X111 hx (y := (⟨"com/example/vigilant_consumer/vigilantconsumer/ErrorCode", "of", "(S)Lcom/example/vigilant_consumer/vigilantconsumer/ErrorCode;"⟩ : MethodName)) hown (mvT hZ (hw _ (List.mem_of_getElem? (i := 50) rfl))) (mvT hZ (hw _ (List.mem_of_getElem? (i := 51) rfl))) (mvT hZ (hw _ (List.mem_of_getElem? (i := 3) rfl))) (mvT hZ (hw _ (List.mem_of_getElem? (i := 52) rfl))) (by decide) (backOf (W := 0) (own_of l Z a0 hw [] kk va kv w0 w1 w2 w3 w4 w5 w6 w7 w8 w9 w10 w11 w12 w13 w14 w15 w16 w17 w18 w19 w20 w21 w22 T107.heap n0 Z108 (S_V.ext O.2) (VV.ext O.2) (EV.ext O.2) (F0.ext O.2) (F1.ext O.2) (F2.ext O.2) (F3.ext O.2) (F4.ext O.2) (F5.ext O.2) (F6.ext O.2) (F7.ext O.2) (F8.ext O.2) (F9.ext O.2) (F10.ext O.2) (F11.ext O.2) (F12.ext O.2) (F13.ext O.2) (F14.ext O.2) (F15.ext O.2) (F16.ext O.2) (F17.ext O.2) (F18.ext O.2) (F19.ext O.2) (F20.ext O.2) (F21.ext O.2) (F22.ext O.2)) hZ (hw _ (List.mem_of_getElem? (i := 52) rfl)) (hw _ (List.mem_of_getElem? (i := 3) rfl)) (by decide) (by decide)) (g := (mkF m 202 #[.val (.int x1), .val (.int x2), .val (.ref b1), .val (.int (x1.toInt16.toInt32)), .val (.ref ev), .val (.int (1 : Int32)), .val (.ref ee), .unset] [(.int kk)])) rfl (by rw [hml]; rfl) (argsL := [(.int kk)]) (rest := []) (lenOf own_pd1 rfl) rfl (by show 2 * 0 + _ ≤ _; exact Nat.le_of_eq rfl) (hb hby at_202) (fun _ _ => ⟨rfl, e111, (by decide : 2 + 1 ≤ _), (by decide : 46 + 23 ≤ _)⟩)
    dsimp only [Pt.U, Pt.locs, Pt.cells, Pt.slots] at X112 l112 y112 z112 st112 hQ112
    subst l112 y112 z112
    obtain ⟨rv112, N112q, K112⟩ := hQ112
    rw [hec] at rv112
    subst rv112
    have N112 := Fr.app N109 N112q
    have O := O.keep K112 all0
    have V_b1 := V_b1.keep K112 nin0
    have Z113 := Nat.le_trans Z108 K112.1
    obtain ⟨T114, X114, e114, st114⟩ := getF X112 hx hZ hown (host := "") (Or.inl (hw _ (List.mem_of_getElem? (i := 75) rfl))) Via.refl rfl (Fe.ext O.2) (g := (mkF m 212 #[.val (.int x1), .val (.int x2), .val (.ref b1), .val (.int (x1.toInt16.toInt32)), .val (.ref ev), .val (.int (1 : Int32)), .val (.ref ee), .unset] [(.ref ee)])) rfl rfl (hb hby at_212)
    obtain ⟨T115, X115, e115, st115⟩ := getF X114 hx hZ hown (host := "") (Or.inl (hw _ (List.mem_of_getElem? (i := 75) rfl))) Via.refl e114 (Fe.ext O.2) (g := (mkF m 218 #[.val (.int x1), .val (.int x2), .val (.ref b1), .val (.int (x1.toInt16.toInt32)), .val (.ref ev), .val (.int (1 : Int32)), .val (.ref ee), .unset] [(.ref ee), (.int (0 : Int32)), (.int kk)])) rfl rfl (hb hby at_218)
    obtain ⟨fs, hr, hrun, hended, hW, hsame⟩ := X115.leave (v := some (.int (1 : Int32))) (fun h => by rw [Bd.returns] at h; cases h)
    refine ⟨_, _, pre96 _ ?_, hrun, hended, _, _, rfl, ?_, ⟨_, rfl⟩, hW, hsame.mono (by decide) (by decide)⟩
    · show Steps p.tables e below (T93.setTop (mkF m 164 #[.val (.int x1), .val (.int x2), .val (.ref b1), .val (.int (x1.toInt16.toInt32)), .unset, .unset, .unset, .unset] [])) _
      refine XS.iloadN X95.here hx rfl (hb hby at_164) rfl ?_
      show Steps p.tables e below (T93.setTop (mkF m 165 #[.val (.int x1), .val (.int x2), .val (.ref b1), .val (.int (x1.toInt16.toInt32)), .unset, .unset, .unset, .unset] [(.int (x1.toInt16.toInt32))])) _
      refine st107 _ ?_
      show Steps p.tables e below (T107.setTop (mkF m 168 #[.val (.int x1), .val (.int x2), .val (.ref b1), .val (.int (x1.toInt16.toInt32)), .unset, .unset, .unset, .unset] [(.ref ev)])) _
      refine XS.astore X107.here hx rfl (hb hby at_168) rfl rfl (l' := #[.val (.int x1), .val (.int x2), .val (.ref b1), .val (.int (x1.toInt16.toInt32)), .val (.ref ev), .unset, .unset, .unset]) rfl ?_
      show Steps p.tables e below (T107.setTop (mkF m 170 #[.val (.int x1), .val (.int x2), .val (.ref b1), .val (.int (x1.toInt16.toInt32)), .val (.ref ev), .unset, .unset, .unset] [])) _
      refine XS.aload X107.here hx rfl (hb hby at_170) rfl rfl ?_
      show Steps p.tables e below (T107.setTop (mkF m 172 #[.val (.int x1), .val (.int x2), .val (.ref b1), .val (.int (x1.toInt16.toInt32)), .val (.ref ev), .unset, .unset, .unset] [(.ref ev)])) _
      refine XS.iloadN X107.here hx rfl (hb hby at_172) rfl ?_
      show Steps p.tables e below (T107.setTop (mkF m 173 #[.val (.int x1), .val (.int x2), .val (.ref b1), .val (.int (x1.toInt16.toInt32)), .val (.ref ev), .unset, .unset, .unset] [(.int (x1.toInt16.toInt32)), (.ref ev)])) _
      refine st109 _ ?_
      show Steps p.tables e below (T109.setTop (mkF m 176 #[.val (.int x1), .val (.int x2), .val (.ref b1), .val (.int (x1.toInt16.toInt32)), .val (.ref ev), .unset, .unset, .unset] [(.ref ev), (.ref ev)])) _
      refine Jvm.RoadKit.acmp (g := (mkF m 176 #[.val (.int x1), .val (.int x2), .val (.ref b1), .val (.int (x1.toInt16.toInt32)), .val (.ref ev), .unset, .unset, .unset] [(.ref ev), (.ref ev)])) X109 hx rfl rfl rfl (pc0 := 176) (pc' := 179) (same := true) rfl (hb hby at_176) rfl (decide_eq_true rfl) (by decide) (by decide) ?_
      show Steps p.tables e below (T109.setTop (mkF m 179 #[.val (.int x1), .val (.int x2), .val (.ref b1), .val (.int (x1.toInt16.toInt32)), .val (.ref ev), .unset, .unset, .unset] [])) _
      refine XS.iconst X109.here hx rfl (hb hby at_179) ?_
      show Steps p.tables e below (T109.setTop (mkF m 180 #[.val (.int x1), .val (.int x2), .val (.ref b1), .val (.int (x1.toInt16.toInt32)), .val (.ref ev), .unset, .unset, .unset] [(.int (1 : Int32))])) _
      refine XS.goto X109.here hx rfl (pc0 := 180) (pc' := 184) rfl (hb hby at_180) (by decide) (by decide) ?_
      show Steps p.tables e below (T109.setTop (mkF m 184 #[.val (.int x1), .val (.int x2), .val (.ref b1), .val (.int (x1.toInt16.toInt32)), .val (.ref ev), .unset, .unset, .unset] [(.int (1 : Int32))])) _
      refine XS.istore X109.here hx rfl (hb hby at_184) rfl (l' := #[.val (.int x1), .val (.int x2), .val (.ref b1), .val (.int (x1.toInt16.toInt32)), .val (.ref ev), .val (.int (1 : Int32)), .unset, .unset]) rfl ?_
      show Steps p.tables e below (T109.setTop (mkF m 186 #[.val (.int x1), .val (.int x2), .val (.ref b1), .val (.int (x1.toInt16.toInt32)), .val (.ref ev), .val (.int (1 : Int32)), .unset, .unset] [])) _
      refine XS.aloadN X109.here hx rfl (hb hby at_186) rfl rfl ?_
      show Steps p.tables e below (T109.setTop (mkF m 187 #[.val (.int x1), .val (.int x2), .val (.ref b1), .val (.int (x1.toInt16.toInt32)), .val (.ref ev), .val (.int (1 : Int32)), .unset, .unset] [(.ref b1)])) _
      refine XS.iloadN X109.here hx rfl (hb hby at_187) rfl ?_
      show Steps p.tables e below (T109.setTop (mkF m 188 #[.val (.int x1), .val (.int x2), .val (.ref b1), .val (.int (x1.toInt16.toInt32)), .val (.ref ev), .val (.int (1 : Int32)), .unset, .unset] [(.int x2), (.ref b1)])) _
      refine X109.ldcInt hx hown (mvT hZ (hw _ (List.mem_of_getElem? (i := 74) rfl))) (g := (mkF m 188 #[.val (.int x1), .val (.int x2), .val (.ref b1), .val (.int (x1.toInt16.toInt32)), .val (.ref ev), .val (.int (1 : Int32)), .unset, .unset] [(.int x2), (.ref b1)])) rfl (hb hby at_188) _ ?_
      show Steps p.tables e below (T109.setTop (mkF m 190 #[.val (.int x1), .val (.int x2), .val (.ref b1), .val (.int (x1.toInt16.toInt32)), .val (.ref ev), .val (.int (1 : Int32)), .unset, .unset] [(.int (2147483647 : Int32)), (.int x2), (.ref b1)])) _
      refine XS.iand X109.here hx rfl (hb hby at_190) rfl ?_
      show Steps p.tables e below (T109.setTop (mkF m 191 #[.val (.int x1), .val (.int x2), .val (.ref b1), .val (.int (x1.toInt16.toInt32)), .val (.ref ev), .val (.int (1 : Int32)), .unset, .unset] [(.int (x2 &&& (2147483647 : Int32))), (.ref b1)])) _
      refine XS.bipush X109.here hx rfl (hb hby at_191) ?_
      show Steps p.tables e below (T109.setTop (mkF m 193 #[.val (.int x1), .val (.int x2), .val (.ref b1), .val (.int (x1.toInt16.toInt32)), .val (.ref ev), .val (.int (1 : Int32)), .unset, .unset] [(.int (23 : Int32)), (.int (x2 &&& (2147483647 : Int32))), (.ref b1)])) _
      refine iremM X109 hx rfl (hb hby at_193) rfl (by decide) ?_
      show Steps p.tables e below (T109.setTop (mkF m 194 #[.val (.int x1), .val (.int x2), .val (.ref b1), .val (.int (x1.toInt16.toInt32)), .val (.ref ev), .val (.int (1 : Int32)), .unset, .unset] [(.int ((x2 &&& (2147483647 : Int32)) % (23 : Int32))), (.ref b1)])) _
      refine X109.aaload hx (j := ((x2 &&& (2147483647 : Int32)) % (23 : Int32))) (v := (.ref ee)) (by rw [e109]; exact Ar110.1) (State.isArrayOf_alike hZ.alike Ar110.2.1) rfl Ar110.2.2 hin110 (H110.at hin110 hz) (g := (mkF m 194 #[.val (.int x1), .val (.int x2), .val (.ref b1), .val (.int (x1.toInt16.toInt32)), .val (.ref ev), .val (.int (1 : Int32)), .unset, .unset] [(.int ((x2 &&& (2147483647 : Int32)) % (23 : Int32))), (.ref b1)])) rfl rfl (hb hby at_194) _ ?_
      show Steps p.tables e below (T109.setTop (mkF m 195 #[.val (.int x1), .val (.int x2), .val (.ref b1), .val (.int (x1.toInt16.toInt32)), .val (.ref ev), .val (.int (1 : Int32)), .unset, .unset] [(.ref ee)])) _
      refine XS.astore X109.here hx rfl (hb hby at_195) rfl rfl (l' := #[.val (.int x1), .val (.int x2), .val (.ref b1), .val (.int (x1.toInt16.toInt32)), .val (.ref ev), .val (.int (1 : Int32)), .val (.ref ee), .unset]) rfl ?_
      show Steps p.tables e below (T109.setTop (mkF m 197 #[.val (.int x1), .val (.int x2), .val (.ref b1), .val (.int (x1.toInt16.toInt32)), .val (.ref ev), .val (.int (1 : Int32)), .val (.ref ee), .unset] [])) _
      refine XS.aload X109.here hx rfl (hb hby at_197) rfl rfl ?_
      show Steps p.tables e below (T109.setTop (mkF m 199 #[.val (.int x1), .val (.int x2), .val (.ref b1), .val (.int (x1.toInt16.toInt32)), .val (.ref ev), .val (.int (1 : Int32)), .val (.ref ee), .unset] [(.ref ee)])) _
      refine st111 _ ?_
      show Steps p.tables e below (T111.setTop (mkF m 202 #[.val (.int x1), .val (.int x2), .val (.ref b1), .val (.int (x1.toInt16.toInt32)), .val (.ref ev), .val (.int (1 : Int32)), .val (.ref ee), .unset] [(.int kk)])) _
      refine st112 _ ?_
      show Steps p.tables e below (T112.setTop (mkF m 205 #[.val (.int x1), .val (.int x2), .val (.ref b1), .val (.int (x1.toInt16.toInt32)), .val (.ref ev), .val (.int (1 : Int32)), .val (.ref ee), .unset] [(.ref ee)])) _
      refine XS.aload X112.here hx rfl (hb hby at_205) rfl rfl ?_
      show Steps p.tables e below (T112.setTop (mkF m 207 #[.val (.int x1), .val (.int x2), .val (.ref b1), .val (.int (x1.toInt16.toInt32)), .val (.ref ev), .val (.int (1 : Int32)), .val (.ref ee), .unset] [(.ref ee), (.ref ee)])) _
      refine Jvm.RoadKit.acmp (g := (mkF m 207 #[.val (.int x1), .val (.int x2), .val (.ref b1), .val (.int (x1.toInt16.toInt32)), .val (.ref ev), .val (.int (1 : Int32)), .val (.ref ee), .unset] [(.ref ee), (.ref ee)])) X112 hx rfl rfl rfl (pc0 := 207) (pc' := 210) (same := true) rfl (hb hby at_207) rfl (decide_eq_true rfl) (by decide) (by decide) ?_
      show Steps p.tables e below (T112.setTop (mkF m 210 #[.val (.int x1), .val (.int x2), .val (.ref b1), .val (.int (x1.toInt16.toInt32)), .val (.ref ev), .val (.int (1 : Int32)), .val (.ref ee), .unset] [])) _
      refine XS.aload X112.here hx rfl (hb hby at_210) rfl rfl ?_
      show Steps p.tables e below (T112.setTop (mkF m 212 #[.val (.int x1), .val (.int x2), .val (.ref b1), .val (.int (x1.toInt16.toInt32)), .val (.ref ev), .val (.int (1 : Int32)), .val (.ref ee), .unset] [(.ref ee)])) _
      refine st114 _ ?_
      show Steps p.tables e below (T114.setTop (mkF m 215 #[.val (.int x1), .val (.int x2), .val (.ref b1), .val (.int (x1.toInt16.toInt32)), .val (.ref ev), .val (.int (1 : Int32)), .val (.ref ee), .unset] [(.int kk)])) _
      refine XS.iconst X114.here hx rfl (hb hby at_215) ?_
      show Steps p.tables e below (T114.setTop (mkF m 216 #[.val (.int x1), .val (.int x2), .val (.ref b1), .val (.int (x1.toInt16.toInt32)), .val (.ref ev), .val (.int (1 : Int32)), .val (.ref ee), .unset] [(.int (0 : Int32)), (.int kk)])) _
      refine XS.aload X114.here hx rfl (hb hby at_216) rfl rfl ?_
      show Steps p.tables e below (T114.setTop (mkF m 218 #[.val (.int x1), .val (.int x2), .val (.ref b1), .val (.int (x1.toInt16.toInt32)), .val (.ref ev), .val (.int (1 : Int32)), .val (.ref ee), .unset] [(.ref ee), (.int (0 : Int32)), (.int kk)])) _
      refine st115 _ ?_
      show Steps p.tables e below (T115.setTop (mkF m 221 #[.val (.int x1), .val (.int x2), .val (.ref b1), .val (.int (x1.toInt16.toInt32)), .val (.ref ev), .val (.int (1 : Int32)), .val (.ref ee), .unset] [(.int kk), (.int (0 : Int32)), (.int kk)])) _
      refine XS.iadd X115.here hx rfl (hb hby at_221) rfl ?_
      show Steps p.tables e below (T115.setTop (mkF m 222 #[.val (.int x1), .val (.int x2), .val (.ref b1), .val (.int (x1.toInt16.toInt32)), .val (.ref ev), .val (.int (1 : Int32)), .val (.ref ee), .unset] [(.int ((0 : Int32) + kk)), (.int kk)])) _
      refine XS.icmpNo X115.here hx rfl (hb hby at_222) rfl (teq (by simp : kk = ((0 : Int32) + kk))).2 ?_
      show Steps p.tables e below (T115.setTop (mkF m 225 #[.val (.int x1), .val (.int x2), .val (.ref b1), .val (.int (x1.toInt16.toInt32)), .val (.ref ev), .val (.int (1 : Int32)), .val (.ref ee), .unset] [])) _
      refine XS.iconst X115.here hx rfl (hb hby at_225) ?_
      show Steps p.tables e below (T115.setTop (mkF m 226 #[.val (.int x1), .val (.int x2), .val (.ref b1), .val (.int (x1.toInt16.toInt32)), .val (.ref ev), .val (.int (1 : Int32)), .val (.ref ee), .unset] [(.int (1 : Int32))])) _
      refine XS.goto X115.here hx rfl (pc0 := 226) (pc' := 230) rfl (hb hby at_226) (by decide) (by decide) ?_
      show Steps p.tables e below (T115.setTop (mkF m 230 #[.val (.int x1), .val (.int x2), .val (.ref b1), .val (.int (x1.toInt16.toInt32)), .val (.ref ev), .val (.int (1 : Int32)), .val (.ref ee), .unset] [(.int (1 : Int32))])) _
      refine XS.istore X115.here hx rfl (hb hby at_230) rfl (l' := #[.val (.int x1), .val (.int x2), .val (.ref b1), .val (.int (x1.toInt16.toInt32)), .val (.ref ev), .val (.int (1 : Int32)), .val (.ref ee), .val (.int (1 : Int32))]) rfl ?_
      show Steps p.tables e below (T115.setTop (mkF m 232 #[.val (.int x1), .val (.int x2), .val (.ref b1), .val (.int (x1.toInt16.toInt32)), .val (.ref ev), .val (.int (1 : Int32)), .val (.ref ee), .val (.int (1 : Int32))] [])) _
      refine XS.iload X115.here hx rfl (hb hby at_232) rfl ?_
      show Steps p.tables e below (T115.setTop (mkF m 234 #[.val (.int x1), .val (.int x2), .val (.ref b1), .val (.int (x1.toInt16.toInt32)), .val (.ref ev), .val (.int (1 : Int32)), .val (.ref ee), .val (.int (1 : Int32))] [(.int (1 : Int32))])) _
      refine XS.ifNo X115.here hx rfl (hb hby at_234) rfl ((if0 _ _).trans (feq (by decide : ¬ ((1 : Int32) = (0 : Int32)))).1) ?_
      show Steps p.tables e below (T115.setTop (mkF m 237 #[.val (.int x1), .val (.int x2), .val (.ref b1), .val (.int (x1.toInt16.toInt32)), .val (.ref ev), .val (.int (1 : Int32)), .val (.ref ee), .val (.int (1 : Int32))] [])) _
      refine XS.iload X115.here hx rfl (hb hby at_237) rfl ?_
      show Steps p.tables e below (T115.setTop (mkF m 239 #[.val (.int x1), .val (.int x2), .val (.ref b1), .val (.int (x1.toInt16.toInt32)), .val (.ref ev), .val (.int (1 : Int32)), .val (.ref ee), .val (.int (1 : Int32))] [(.int (1 : Int32))])) _
      refine XS.ifNo X115.here hx rfl (hb hby at_239) rfl ((if0 _ _).trans (feq (by decide : ¬ ((1 : Int32) = (0 : Int32)))).1) ?_
      show Steps p.tables e below (T115.setTop (mkF m 242 #[.val (.int x1), .val (.int x2), .val (.ref b1), .val (.int (x1.toInt16.toInt32)), .val (.ref ev), .val (.int (1 : Int32)), .val (.ref ee), .val (.int (1 : Int32))] [])) _
      refine XS.iconst X115.here hx rfl (hb hby at_242) ?_
      show Steps p.tables e below (T115.setTop (mkF m 243 #[.val (.int x1), .val (.int x2), .val (.ref b1), .val (.int (x1.toInt16.toInt32)), .val (.ref ev), .val (.int (1 : Int32)), .val (.ref ee), .val (.int (1 : Int32))] [(.int (1 : Int32))])) _
      refine XS.goto X115.here hx rfl (pc0 := 243) (pc' := 247) rfl (hb hby at_243) (by decide) (by decide) ?_
      show Steps p.tables e below (T115.setTop (mkF m 247 #[.val (.int x1), .val (.int x2), .val (.ref b1), .val (.int (x1.toInt16.toInt32)), .val (.ref ev), .val (.int (1 : Int32)), .val (.ref ee), .val (.int (1 : Int32))] [(.int (1 : Int32))])) _
      exact retN X115 hx (t := .boolean) Bd.returns (by simp) (hb hby at_247) hr
    · show own_Q_own_law Z x1 x2 va kv w0 w1 w2 w3 w4 w5 w6 w7 w8 w9 w10 w11 w12 w13 w14 w15 w16 w17 w18 w19 w20 w21 w22 h0 n0 _ T115.heap _
      rw [e115]
      exact ⟨rfl, N112⟩
set_option maxRecDepth 65536 in
set_option maxHeartbeats 40000000 in
theorem own_comes_1 {Post : Tables → Env → Array Value → State → Outcome → State → Prop} (hpost : ∀ tb e args s v u, (limb_1_1.after args s (.returned v) u = true ∧ limb_1_2.after args s (.returned v) u = true ∧ True) → FrameEnd s (.returned v) u (Jvm.fieldLocs frame_1_writes args s ++ Jvm.arrayLocs frame_1_arrays args s ++ Jvm.staticLocs frame_1_statics s) 16 256 → Post tb e args s (.returned v) u) :
    ArmFor flags0 classFile x code maxLocals ret World_1 tables_1 room_1 Calls_1 rest_1 Pre_1 Post := by
  intro l hfl _ _ p e ha hc hk s m args below hf hA hF happ hP
  obtain ⟨hcalls, hrest, hpre⟩ := hP
  obtain ⟨-, -, -, hnamed, -, -, -, hat⟩ := (Spec.applies_iff hf).mp happ
  obtain ⟨hg, hn⟩ := and_e (Cond.before_iff.mp (show (Jvm.Cond.and given_1 narrow_1).before args s = true from hpre))
  obtain ⟨g1, g2⟩ := and_e hg
  obtain ⟨g3, g4⟩ := and_e g2
  obtain ⟨g5, g6⟩ := and_e hn
  obtain ⟨g7, g8⟩ := and_e g6
  obtain ⟨g9, g10⟩ := and_e g8
  obtain ⟨g11, g12⟩ := and_e g10
  obtain ⟨g13, g14⟩ := and_e g12
  obtain ⟨g15, g16⟩ := and_e g14
  obtain ⟨g17, g18⟩ := and_e g16
  obtain ⟨g19, g20⟩ := and_e g18
  obtain ⟨g21, g22⟩ := and_e g20
  obtain ⟨g23, g24⟩ := and_e g22
  obtain ⟨g25, g26⟩ := and_e g24
  obtain ⟨g27, g28⟩ := and_e g26
  obtain ⟨g29, g30⟩ := and_e g28
  obtain ⟨g31, g32⟩ := and_e g30
  obtain ⟨g33, g34⟩ := and_e g32
  obtain ⟨g35, g36⟩ := and_e g34
  obtain ⟨g37, g38⟩ := and_e g36
  obtain ⟨g39, g40⟩ := and_e g38
  obtain ⟨g41, g42⟩ := and_e g40
  obtain ⟨g43, g44⟩ := and_e g42
  obtain ⟨g45, g46⟩ := and_e g44
  obtain ⟨g47, g48⟩ := and_e g46
  obtain ⟨g49, g50⟩ := and_e g48
  obtain ⟨g51, g52⟩ := and_e g50
  obtain ⟨g53, g54⟩ := and_e g52
  obtain ⟨g55, g56⟩ := and_e g54
  obtain ⟨g57, g58⟩ := and_e g56
  obtain ⟨g59, g60⟩ := and_e g58
  obtain ⟨g61, g62⟩ := and_e g60
  obtain ⟨g63, g64⟩ := and_e g62
  obtain ⟨g65, g66⟩ := and_e g64
  obtain ⟨g67, g68⟩ := and_e g66
  obtain ⟨g69, g70⟩ := and_e g68
  obtain ⟨g71, g72⟩ := and_e g70
  obtain ⟨g73, g74⟩ := and_e g72
  obtain ⟨g75, g76⟩ := and_e g74
  obtain ⟨g77, g78⟩ := and_e g76
  obtain ⟨g79, g80⟩ := and_e g78
  obtain ⟨g81, g82⟩ := and_e g80
  obtain ⟨g83, g84⟩ := and_e g82
  obtain ⟨g85, g86⟩ := and_e g84
  obtain ⟨g87, g88⟩ := and_e g86
  obtain ⟨g89, g90⟩ := and_e g88
  obtain ⟨g91, g92⟩ := and_e g90
  obtain ⟨g93, g94⟩ := and_e g92
  obtain ⟨g95, g96⟩ := and_e g94
  obtain ⟨g97, g98⟩ := and_e g96
  obtain ⟨g99, g100⟩ := and_e g98
  obtain ⟨g101, g102⟩ := and_e g100
  obtain ⟨g103, g104⟩ := and_e g102
  obtain ⟨g105, g106⟩ := and_e g104
  obtain ⟨g107, g108⟩ := and_e g106
  obtain ⟨g109, g110⟩ := and_e g108
  obtain ⟨g111, g112⟩ := and_e g110
  obtain ⟨g113, g114⟩ := and_e g112
  obtain ⟨g115, g116⟩ := and_e g114
  obtain ⟨g117, g118⟩ := and_e g116
  obtain ⟨g119, g120⟩ := and_e g118
  obtain ⟨g121, g122⟩ := and_e g120
  obtain ⟨g123, g124⟩ := and_e g122
  obtain ⟨g125, g126⟩ := and_e g124
  obtain ⟨g127, g128⟩ := and_e g126
  obtain ⟨g129, g130⟩ := and_e g128
  obtain ⟨g131, g132⟩ := and_e g130
  obtain ⟨g133, g134⟩ := and_e g132
  obtain ⟨g135, g136⟩ := and_e g134
  obtain ⟨g137, g138⟩ := and_e g136
  obtain ⟨g139, g140⟩ := and_e g138
  obtain ⟨g141, g142⟩ := and_e g140
  obtain ⟨g143, g144⟩ := and_e g142
  obtain ⟨g145, g146⟩ := and_e g144
  obtain ⟨w0, w1, rfl⟩ : ∃ w0 w1 : Value, args = #[w0, w1] := by
    have hs : args.size = 2 := by simpa [Cond.value, given_1] using g1
    obtain ⟨L⟩ := args
    match L, hs with
    | [w0, w1], _ => exact ⟨w0, w1, rfl⟩
  have hw := fun d (hd : d ∈ tables_1) => atoms_spec (ws := Jvm.Cond.code x code maxLocals ret :: tables_1) hat d (List.mem_cons_of_mem _ hd)
  have hfit : Fit s := fun {y c} hc i hi => by
    obtain ⟨ha, rfl⟩ := Array.getElem?_eq_some_iff.mp hc
    have q := List.all_eq_true.mp ((Array.all_eq_true_iff_forall_mem.mp hF) _ (Array.getElem_mem ha)) i (List.mem_range.mpr hi)
    simpa [Array.getElem?_eq_getElem hi] using q
  obtain ⟨i0, ei0⟩ := is_v g3
  obtain rfl : w0 = (.int i0) := Option.some.inj ei0
  obtain ⟨i1, ei1⟩ := is_v g4
  obtain rfl : w1 = (.int i1) := Option.some.inj ei1
  obtain ⟨w0, ev0⟩ := exa_v g5
  have S_0 := Sta.start ev0 (Or.inr ⟨(hw _ (List.mem_of_getElem? (i := 3) rfl)), (hw _ (List.mem_of_getElem? (i := 4) rfl))⟩)
  have EX0 := Exa.start ev0 g5
  obtain ⟨w1, ev1⟩ := exa_v g7
  have S_1 := Sta.start ev1 (Or.inr ⟨(hw _ (List.mem_of_getElem? (i := 3) rfl)), (hw _ (List.mem_of_getElem? (i := 7) rfl))⟩)
  have EX1 := Exa.start ev1 g7
  obtain ⟨w2, ev2⟩ := exa_v g9
  have S_2 := Sta.start ev2 (Or.inr ⟨(hw _ (List.mem_of_getElem? (i := 3) rfl)), (hw _ (List.mem_of_getElem? (i := 9) rfl))⟩)
  have EX2 := Exa.start ev2 g9
  obtain ⟨w3, ev3⟩ := exa_v g11
  have S_3 := Sta.start ev3 (Or.inr ⟨(hw _ (List.mem_of_getElem? (i := 3) rfl)), (hw _ (List.mem_of_getElem? (i := 11) rfl))⟩)
  have EX3 := Exa.start ev3 g11
  obtain ⟨w4, ev4⟩ := exa_v g13
  have S_4 := Sta.start ev4 (Or.inr ⟨(hw _ (List.mem_of_getElem? (i := 3) rfl)), (hw _ (List.mem_of_getElem? (i := 13) rfl))⟩)
  have EX4 := Exa.start ev4 g13
  obtain ⟨w5, ev5⟩ := exa_v g15
  have S_5 := Sta.start ev5 (Or.inr ⟨(hw _ (List.mem_of_getElem? (i := 3) rfl)), (hw _ (List.mem_of_getElem? (i := 15) rfl))⟩)
  have EX5 := Exa.start ev5 g15
  obtain ⟨w6, ev6⟩ := exa_v g17
  have S_6 := Sta.start ev6 (Or.inr ⟨(hw _ (List.mem_of_getElem? (i := 3) rfl)), (hw _ (List.mem_of_getElem? (i := 17) rfl))⟩)
  have EX6 := Exa.start ev6 g17
  obtain ⟨w7, ev7⟩ := exa_v g19
  have S_7 := Sta.start ev7 (Or.inr ⟨(hw _ (List.mem_of_getElem? (i := 3) rfl)), (hw _ (List.mem_of_getElem? (i := 19) rfl))⟩)
  have EX7 := Exa.start ev7 g19
  obtain ⟨w8, ev8⟩ := exa_v g21
  have S_8 := Sta.start ev8 (Or.inr ⟨(hw _ (List.mem_of_getElem? (i := 3) rfl)), (hw _ (List.mem_of_getElem? (i := 21) rfl))⟩)
  have EX8 := Exa.start ev8 g21
  obtain ⟨w9, ev9⟩ := exa_v g23
  have S_9 := Sta.start ev9 (Or.inr ⟨(hw _ (List.mem_of_getElem? (i := 3) rfl)), (hw _ (List.mem_of_getElem? (i := 23) rfl))⟩)
  have EX9 := Exa.start ev9 g23
  obtain ⟨w10, ev10⟩ := exa_v g25
  have S_10 := Sta.start ev10 (Or.inr ⟨(hw _ (List.mem_of_getElem? (i := 3) rfl)), (hw _ (List.mem_of_getElem? (i := 25) rfl))⟩)
  have EX10 := Exa.start ev10 g25
  obtain ⟨w11, ev11⟩ := exa_v g27
  have S_11 := Sta.start ev11 (Or.inr ⟨(hw _ (List.mem_of_getElem? (i := 3) rfl)), (hw _ (List.mem_of_getElem? (i := 27) rfl))⟩)
  have EX11 := Exa.start ev11 g27
  obtain ⟨w12, ev12⟩ := exa_v g29
  have S_12 := Sta.start ev12 (Or.inr ⟨(hw _ (List.mem_of_getElem? (i := 3) rfl)), (hw _ (List.mem_of_getElem? (i := 29) rfl))⟩)
  have EX12 := Exa.start ev12 g29
  obtain ⟨w13, ev13⟩ := exa_v g31
  have S_13 := Sta.start ev13 (Or.inr ⟨(hw _ (List.mem_of_getElem? (i := 3) rfl)), (hw _ (List.mem_of_getElem? (i := 31) rfl))⟩)
  have EX13 := Exa.start ev13 g31
  obtain ⟨w14, ev14⟩ := exa_v g33
  have S_14 := Sta.start ev14 (Or.inr ⟨(hw _ (List.mem_of_getElem? (i := 3) rfl)), (hw _ (List.mem_of_getElem? (i := 33) rfl))⟩)
  have EX14 := Exa.start ev14 g33
  obtain ⟨w15, ev15⟩ := exa_v g35
  have S_15 := Sta.start ev15 (Or.inr ⟨(hw _ (List.mem_of_getElem? (i := 3) rfl)), (hw _ (List.mem_of_getElem? (i := 35) rfl))⟩)
  have EX15 := Exa.start ev15 g35
  obtain ⟨w16, ev16⟩ := exa_v g37
  have S_16 := Sta.start ev16 (Or.inr ⟨(hw _ (List.mem_of_getElem? (i := 3) rfl)), (hw _ (List.mem_of_getElem? (i := 37) rfl))⟩)
  have EX16 := Exa.start ev16 g37
  obtain ⟨w17, ev17⟩ := exa_v g39
  have S_17 := Sta.start ev17 (Or.inr ⟨(hw _ (List.mem_of_getElem? (i := 3) rfl)), (hw _ (List.mem_of_getElem? (i := 39) rfl))⟩)
  have EX17 := Exa.start ev17 g39
  obtain ⟨w18, ev18⟩ := exa_v g41
  have S_18 := Sta.start ev18 (Or.inr ⟨(hw _ (List.mem_of_getElem? (i := 3) rfl)), (hw _ (List.mem_of_getElem? (i := 41) rfl))⟩)
  have EX18 := Exa.start ev18 g41
  obtain ⟨w19, ev19⟩ := exa_v g43
  have S_19 := Sta.start ev19 (Or.inr ⟨(hw _ (List.mem_of_getElem? (i := 3) rfl)), (hw _ (List.mem_of_getElem? (i := 43) rfl))⟩)
  have EX19 := Exa.start ev19 g43
  obtain ⟨w20, ev20⟩ := exa_v g45
  have S_20 := Sta.start ev20 (Or.inr ⟨(hw _ (List.mem_of_getElem? (i := 3) rfl)), (hw _ (List.mem_of_getElem? (i := 45) rfl))⟩)
  have EX20 := Exa.start ev20 g45
  obtain ⟨w21, ev21⟩ := exa_v g47
  have S_21 := Sta.start ev21 (Or.inr ⟨(hw _ (List.mem_of_getElem? (i := 3) rfl)), (hw _ (List.mem_of_getElem? (i := 47) rfl))⟩)
  have EX21 := Exa.start ev21 g47
  obtain ⟨w22, ev22⟩ := exa_v g49
  have S_22 := Sta.start ev22 (Or.inr ⟨(hw _ (List.mem_of_getElem? (i := 3) rfl)), (hw _ (List.mem_of_getElem? (i := 49) rfl))⟩)
  have EX22 := Exa.start ev22 g49
  obtain ⟨va, evv⟩ := exa_v g53
  have S_V := Sta.start evv (Or.inr ⟨(hw _ (List.mem_of_getElem? (i := 3) rfl)), (hw _ (List.mem_of_getElem? (i := 57) rfl))⟩)
  have EV := Exa.start evv g53
  obtain ⟨cv, AV⟩ := Arr.start evv g51
  have hsz := own_sz evv AV.1 g55
  have el0 := own_el evv AV.1 ev0 (i := 0) (by decide) g57
  have el1 := own_el evv AV.1 ev1 (i := 1) (by decide) g59
  have el2 := own_el evv AV.1 ev2 (i := 2) (by decide) g61
  have el3 := own_el evv AV.1 ev3 (i := 3) (by decide) g63
  have el4 := own_el evv AV.1 ev4 (i := 4) (by decide) g65
  have el5 := own_el evv AV.1 ev5 (i := 5) (by decide) g67
  have el6 := own_el evv AV.1 ev6 (i := 6) (by decide) g69
  have el7 := own_el evv AV.1 ev7 (i := 7) (by decide) g71
  have el8 := own_el evv AV.1 ev8 (i := 8) (by decide) g73
  have el9 := own_el evv AV.1 ev9 (i := 9) (by decide) g75
  have el10 := own_el evv AV.1 ev10 (i := 10) (by decide) g77
  have el11 := own_el evv AV.1 ev11 (i := 11) (by decide) g79
  have el12 := own_el evv AV.1 ev12 (i := 12) (by decide) g81
  have el13 := own_el evv AV.1 ev13 (i := 13) (by decide) g83
  have el14 := own_el evv AV.1 ev14 (i := 14) (by decide) g85
  have el15 := own_el evv AV.1 ev15 (i := 15) (by decide) g87
  have el16 := own_el evv AV.1 ev16 (i := 16) (by decide) g89
  have el17 := own_el evv AV.1 ev17 (i := 17) (by decide) g91
  have el18 := own_el evv AV.1 ev18 (i := 18) (by decide) g93
  have el19 := own_el evv AV.1 ev19 (i := 19) (by decide) g95
  have el20 := own_el evv AV.1 ev20 (i := 20) (by decide) g97
  have el21 := own_el evv AV.1 ev21 (i := 21) (by decide) g99
  have el22 := own_el evv AV.1 ev22 (i := 22) (by decide) g101
  have F0 := own_fldI ev0 g103
  have F3 := own_fldI ev3 g105
  have F1 := own_fldI ev1 g107
  have F2 := own_fldI ev2 g109
  have F4 := own_fldI ev4 g111
  have F5 := own_fldI ev5 g113
  have F6 := own_fldI ev6 g115
  have F7 := own_fldI ev7 g117
  have F8 := own_fldI ev8 g119
  have F9 := own_fldI ev9 g121
  have F10 := own_fldI ev10 g123
  have F11 := own_fldI ev11 g125
  have F12 := own_fldI ev12 g127
  have F13 := own_fldI ev13 g129
  have F14 := own_fldI ev14 g131
  have F15 := own_fldI ev15 g133
  have F16 := own_fldI ev16 g135
  have F17 := own_fldI ev17 g137
  have F18 := own_fldI ev18 g139
  have F19 := own_fldI ev19 g141
  have F20 := own_fldI ev20 g143
  have F21 := own_fldI ev21 g145
  have F22 := own_fldI ev22 g146
  have VV : Arv s s.heap va cv.cls (.object "com/example/vigilant_consumer/vigilantconsumer/ErrorCode") (23 : Int32) [(.ref w0), (.ref w1), (.ref w2), (.ref w3), (.ref w4), (.ref w5), (.ref w6), (.ref w7), (.ref w8), (.ref w9), (.ref w10), (.ref w11), (.ref w12), (.ref w13), (.ref w14), (.ref w15), (.ref w16), (.ref w17), (.ref w18), (.ref w19), (.ref w20), (.ref w21), (.ref w22)] .null := Arv.start hfit AV hsz.2 hsz.1 (by decide) rfl ⟨el0, el1, el2, el3, el4, el5, el6, el7, el8, el9, el10, el11, el12, el13, el14, el15, el16, el17, el18, el19, el20, el21, el22, trivial⟩
  obtain ⟨n, o, h1, h2, h3, _, L, rfl, ⟨rfl, N⟩, hq⟩ := own_law l s _ hw tables_1 i0 i1 va _ w0 w1 w2 w3 w4 w5 w6 w7 w8 w9 w10 w11 w12 w13 w14 w15 w16 w17 w18 w19 w20 w21 w22 s.heap s.heap.size (Nat.le_refl _) (Old.start s) S_V VV EV F0 F1 F2 F3 F4 F5 F6 F7 F8 F9 F10 F11 F12 F13 F14 F15 F16 F17 F18 F19 F20 F21 F22 S_0 S_1 S_2 S_3 S_4 S_5 S_6 S_7 S_8 S_9 S_10 S_11 S_12 S_13 S_14 S_15 S_16 S_17 S_18 S_19 S_20 S_21 S_22 EX0 EX1 EX2 EX3 EX4 EX5 EX6 EX7 EX8 EX9 EX10 EX11 EX12 EX13 EX14 EX15 EX16 EX17 EX18 EX19 EX20 EX21 EX22 p e ha hc hk s m _ below hf ((Spec.applies_iff_loose hf).mp happ).1 ⟨rfl, State.Warmed39.refl s, rfl⟩ trivial
  refine ⟨n, _, h1, h2, h3, hpost _ _ _ _ _ _ ⟨Cond.after_iff.mpr rfl, Cond.after_iff.mpr (eq_i res_at (Term.int_eval (1)) rfl), trivial⟩ ⟨hq.1, hq.2.1, (hq.2.2.sift fun y hy => Or.inr (N y hy)).mono (by decide) (by decide)⟩⟩
theorem main_1_1 : Claimed_1_1 := own_comes_1 fun _ _ _ _ _ _ h hF => ⟨h.1, hF⟩
theorem main_1_2 : Claimed_1_2 := own_comes_1 fun _ _ _ _ _ _ h hF => ⟨h.2.1, hF⟩
end Jvm.Pilot.@@N@@
namespace Jvm.Pilot.@@N@@
open Jvm Jvm.ClassFile Sem Op Lib Jvm.Free Jvm.Stand Jvm.Pilot.@@N@@.Jvm.D
/-! MADE BY PROGRAM (witnessworld.py) out of the Statement's table words and the real class files: 13 classes; the members and pool entries that the words name. The judged class is class 1, her method 2. -/
namespace start1
open Jvm.ClassFile
def u (s : String) : CpInfo := .utf8 (stringToUtf16 s)
/-- a pool by its gaps: so many unusable entries, then the entry; so many at the end -/
def gap : Nat → List CpInfo → List CpInfo
  | 0, r => r
  | n + 1, r => .unusable :: gap n r
def poolList (es : List (Nat × CpInfo)) (last : Nat) : List CpInfo := es.foldr (fun e r => gap e.1 (e.2 :: r)) (gap last [])
def pool (es : List (Nat × CpInfo)) (last : Nat) : Array CpInfo := ⟨poolList es last⟩
def fileOf (pool : Array CpInfo) (this : Nat) (attrs : Array Attribute := #[]) (ms : Array MethodInfo := #[]) (fl : Nat := 33) (sup : Nat := 0) (ifs : Array Nat := #[]) (fds : Array FieldInfo := #[]) : ClassFile where
  minorVersion := 0
  majorVersion := 65
  constantPool := pool
  accessFlags := fl
  thisClass := this
  superClass := sup
  interfaces := ifs
  fields := fds
  methods := ms
  attributes := attrs
def plain (name : String) (sup : Option ClassId) : Class where
  name := name
  kind := .ordinary
  loader := none
  accessFlags := 33
  super := sup
  interfaces := #[]
  cf := none
  fields := #[]
  methods := #[]
  instanceTypes := #[]
  staticTypes := #[]
  resolved := #[]
  callSites := []
  init := .initialized
  statics := none
  mirror := none

def pool0 : Array CpInfo := pool [(5, u "<init>"), (0, u "()V"), (1, .class_ 10), (1, u "java/lang/Object"), (85, u "clone"), (0, u "()Ljava/lang/Object;")] 26

def k0m0 : Method := { name := "<init>", desc := "()V", sig := { parameters := [], returnType := none }, accessFlags := 1, code := none }
def k0m1 : Method := { name := "clone", desc := "()Ljava/lang/Object;", sig := { parameters := [], returnType := some (.object "java/lang/Object") }, accessFlags := 260, code := none }
/-- java/lang/Object -/
def k0 : Class := { plain "java/lang/Object" none with
  accessFlags := 33
  interfaces := #[]
  cf := some (fileOf pool0 8 #[] #[{ accessFlags := 1, nameIndex := 5, descriptorIndex := 6, attributes := #[] }, { accessFlags := 260, nameIndex := 96, descriptorIndex := 97, attributes := #[] }] 33 0 #[] #[])
  fields := #[]
  methods := #[k0m0, k0m1]
  instanceTypes := #[]
  staticTypes := #[]
  resolved := Array.replicate 124 none
  statics := none }

def pool1 : Array CpInfo := pool [(2, .class_ 4), (1, u "java/lang/Object"), (0, u "<init>"), (0, u "()V"), (0, .fieldref 8 9), (0, .class_ 10), (0, .nameAndType 11 12), (0, u "com/example/vigilant_consumer/vigilantconsumer/ErrorCode"), (0, u "NONE"), (0, u "Lcom/example/vigilant_consumer/vigilantconsumer/ErrorCode;"), (0, .fieldref 8 14), (0, .nameAndType 15 12), (0, u "OFFSET_OUT_OF_RANGE"), (0, .fieldref 8 17), (0, .nameAndType 18 12), (0, u "UNKNOWN_TOPIC_OR_PARTITION"), (0, .fieldref 8 20), (0, .nameAndType 21 12), (0, u "LEADER_NOT_AVAILABLE"), (0, .fieldref 8 23), (0, .nameAndType 24 12), (0, u "NOT_LEADER_OR_FOLLOWER"), (0, .fieldref 8 26), (0, .nameAndType 27 12), (0, u "REPLICA_NOT_AVAILABLE"), (0, .fieldref 8 29), (0, .nameAndType 30 12), (0, u "COORDINATOR_LOAD_IN_PROGRESS"), (0, .fieldref 8 32), (0, .nameAndType 33 12), (0, u "COORDINATOR_NOT_AVAILABLE"), (0, .fieldref 8 35), (0, .nameAndType 36 12), (0, u "NOT_COORDINATOR"), (0, .fieldref 8 38), (0, .nameAndType 39 12), (0, u "ILLEGAL_GENERATION"), (0, .fieldref 8 41), (0, .nameAndType 42 12), (0, u "INCONSISTENT_GROUP_PROTOCOL"), (0, .fieldref 8 44), (0, .nameAndType 45 12), (0, u "UNKNOWN_MEMBER_ID"), (0, .fieldref 8 47), (0, .nameAndType 48 12), (0, u "INVALID_SESSION_TIMEOUT"), (0, .fieldref 8 50), (0, .nameAndType 51 12), (0, u "REBALANCE_IN_PROGRESS"), (0, .fieldref 8 53), (0, .nameAndType 54 12), (0, u "TOPIC_AUTHORIZATION_FAILED"), (0, .fieldref 8 56), (0, .nameAndType 57 12), (0, u "GROUP_AUTHORIZATION_FAILED"), (0, .fieldref 8 59), (0, .nameAndType 60 12), (0, u "UNSUPPORTED_VERSION"), (0, .fieldref 8 62), (0, .nameAndType 63 12), (0, u "INVALID_REQUEST"), (0, .fieldref 8 65), (0, .nameAndType 66 12), (0, u "KAFKA_STORAGE_ERROR"), (0, .fieldref 8 68), (0, .nameAndType 69 12), (0, u "FENCED_LEADER_EPOCH"), (0, .fieldref 8 71), (0, .nameAndType 72 12), (0, u "UNKNOWN_LEADER_EPOCH"), (0, .fieldref 8 74), (0, .nameAndType 75 12), (0, u "OFFSET_NOT_AVAILABLE"), (0, .fieldref 8 77), (0, .nameAndType 78 12), (0, u "MEMBER_ID_REQUIRED"), (0, .methodref 8 80), (0, .nameAndType 81 82), (0, u "of"), (0, u "(S)Lcom/example/vigilant_consumer/vigilantconsumer/ErrorCode;"), (0, .methodref 84 85), (0, .class_ 86), (0, .nameAndType 87 88), (0, u "com/example/vigilant_consumer/vigilantconsumer/ErrorCodeOfPinLaw"), (0, u "expected"), (0, u "(I)Lcom/example/vigilant_consumer/vigilantconsumer/ErrorCode;"), (0, .integer 2147483647), (0, .fieldref 8 91), (0, .nameAndType 92 93), (0, u "code"), (0, u "S"), (3, u "law"), (0, u "(II)Z")] 4

def k1m0 : Method := { name := "<init>", desc := "()V", sig := { parameters := [], returnType := none }, accessFlags := 2, code := none }
def k1c1 : Code := { maxStack := 2, maxLocals := 1, code := method_2_code, exceptionTable := #[], attributes := #[] }
def k1m1 : Method := { name := "expected", desc := "(I)Lcom/example/vigilant_consumer/vigilantconsumer/ErrorCode;", sig := { parameters := [.int], returnType := some (.object "com/example/vigilant_consumer/vigilantconsumer/ErrorCode") }, accessFlags := 10, code := some k1c1 }
def k1c2 : Code := { maxStack := 4, maxLocals := 8, code := code, exceptionTable := #[], attributes := #[] }
def k1m2 : Method := { name := "law", desc := "(II)Z", sig := { parameters := [.int, .int], returnType := some .boolean }, accessFlags := 9, code := some k1c2 }
/-- com/example/vigilant_consumer/vigilantconsumer/ErrorCodeOfPinLaw -/
def k1 : Class := { plain "com/example/vigilant_consumer/vigilantconsumer/ErrorCodeOfPinLaw" (some 0) with
  accessFlags := 49
  interfaces := #[]
  cf := some (fileOf pool1 84 #[] #[{ accessFlags := 2, nameIndex := 5, descriptorIndex := 6, attributes := #[] }, { accessFlags := 10, nameIndex := 87, descriptorIndex := 88, attributes := #[] }, { accessFlags := 9, nameIndex := 97, descriptorIndex := 98, attributes := #[] }] 49 2 #[] #[])
  fields := #[]
  methods := #[k1m0, k1m1, k1m2]
  instanceTypes := #[]
  staticTypes := #[]
  resolved := Array.replicate 103 none
  statics := none }

def pool2 : Array CpInfo := pool [(1, .class_ 2), (0, u "java/lang/constant/Constable"), (0, .class_ 4), (0, u "java/lang/Object")] 6

/-- java/lang/constant/Constable -/
def k2 : Class := { plain "java/lang/constant/Constable" (some 0) with
  accessFlags := 1537
  interfaces := #[]
  cf := some (fileOf pool2 1 #[] #[] 1537 3 #[] #[])
  fields := #[]
  methods := #[]
  instanceTypes := #[]
  staticTypes := #[]
  resolved := Array.replicate 11 none
  statics := none }

def pool3 : Array CpInfo := pool [(1, .class_ 2), (0, u "java/lang/Comparable"), (0, .class_ 4), (0, u "java/lang/Object")] 7

/-- java/lang/Comparable -/
def k3 : Class := { plain "java/lang/Comparable" (some 0) with
  accessFlags := 1537
  interfaces := #[]
  cf := some (fileOf pool3 1 #[] #[] 1537 3 #[] #[])
  fields := #[]
  methods := #[]
  instanceTypes := #[]
  staticTypes := #[]
  resolved := Array.replicate 12 none
  statics := none }

def pool4 : Array CpInfo := pool [(1, .class_ 2), (0, u "java/io/Serializable"), (0, .class_ 4), (0, u "java/lang/Object")] 2

/-- java/io/Serializable -/
def k4 : Class := { plain "java/io/Serializable" (some 0) with
  accessFlags := 1537
  interfaces := #[]
  cf := some (fileOf pool4 1 #[] #[] 1537 3 #[] #[])
  fields := #[]
  methods := #[]
  instanceTypes := #[]
  staticTypes := #[]
  resolved := Array.replicate 7 none
  statics := none }

def pool5 : Array CpInfo := pool [(2, .class_ 4), (1, u "java/lang/Enum"), (0, u "name"), (0, u "Ljava/lang/String;"), (2, u "ordinal"), (0, u "I"), (1, .class_ 14), (1, u "java/lang/Object"), (4, u "hash"), (86, .class_ 108), (1, u "java/lang/Enum$EnumDesc"), (2, .class_ 112), (0, u "java/lang/constant/Constable"), (0, .class_ 114), (0, u "java/lang/Comparable"), (0, .class_ 116), (0, u "java/io/Serializable")] 87

/-- java/lang/Enum -/
def k5 : Class := { plain "java/lang/Enum" (some 0) with
  accessFlags := 1057
  interfaces := #[2, 3, 4]
  cf := some (fileOf pool5 2 #[.nestMembers #[106]] #[] 1057 12 #[111, 113, 115] #[{ accessFlags := 18, nameIndex := 5, descriptorIndex := 6, attributes := #[] }, { accessFlags := 18, nameIndex := 9, descriptorIndex := 10, attributes := #[] }, { accessFlags := 2, nameIndex := 19, descriptorIndex := 10, attributes := #[] }])
  fields := #[{ name := "name", type := (.object "java/lang/String"), accessFlags := 18, slot := 0, constantValue := 0 }, { name := "ordinal", type := .int, accessFlags := 18, slot := 1, constantValue := 0 }, { name := "hash", type := .int, accessFlags := 2, slot := 2, constantValue := 0 }]
  methods := #[]
  instanceTypes := #[(.object "java/lang/String"), .int, .int]
  staticTypes := #[]
  resolved := Array.replicate 204 none
  statics := none }

def pool6 : Array CpInfo := pool [(1, .class_ 2), (0, u "com/example/vigilant_consumer/vigilantconsumer/ErrorCode"), (2, u "NONE"), (0, u "Lcom/example/vigilant_consumer/vigilantconsumer/ErrorCode;"), (2, u "OFFSET_OUT_OF_RANGE"), (2, u "UNKNOWN_TOPIC_OR_PARTITION"), (2, u "LEADER_NOT_AVAILABLE"), (2, u "NOT_LEADER_OR_FOLLOWER"), (2, u "REPLICA_NOT_AVAILABLE"), (2, u "COORDINATOR_LOAD_IN_PROGRESS"), (2, u "COORDINATOR_NOT_AVAILABLE"), (2, u "NOT_COORDINATOR"), (2, u "ILLEGAL_GENERATION"), (2, u "INCONSISTENT_GROUP_PROTOCOL"), (2, u "UNKNOWN_MEMBER_ID"), (2, u "INVALID_SESSION_TIMEOUT"), (2, u "REBALANCE_IN_PROGRESS"), (2, u "TOPIC_AUTHORIZATION_FAILED"), (2, u "GROUP_AUTHORIZATION_FAILED"), (2, u "UNSUPPORTED_VERSION"), (2, u "INVALID_REQUEST"), (2, u "KAFKA_STORAGE_ERROR"), (2, u "FENCED_LEADER_EPOCH"), (2, u "UNKNOWN_LEADER_EPOCH"), (2, u "OFFSET_NOT_AVAILABLE"), (2, u "MEMBER_ID_REQUIRED"), (0, .fieldref 1 74), (0, .nameAndType 75 76), (0, u "$VALUES"), (0, u "[Lcom/example/vigilant_consumer/vigilantconsumer/ErrorCode;"), (0, .methodref 78 79), (0, .class_ 76), (0, .nameAndType 80 81), (0, u "clone"), (0, u "()Ljava/lang/Object;"), (1, .class_ 85), (1, u "java/lang/Enum"), (6, .fieldref 1 93), (0, .nameAndType 94 95), (0, u "code"), (0, u "S"), (2, u "retry"), (0, u "Lcom/example/vigilant_consumer/vigilantconsumer/ErrorCode$Retry;"), (0, .methodref 1 101), (0, .nameAndType 102 103), (0, u "values"), (0, u "()[Lcom/example/vigilant_consumer/vigilantconsumer/ErrorCode;"), (5, .class_ 111), (1, u "com/example/vigilant_consumer/vigilantconsumer/ErrorCode$Retry"), (6, u "of"), (0, u "(S)Lcom/example/vigilant_consumer/vigilantconsumer/ErrorCode;")] 78

def k6c0 : Code := { maxStack := 1, maxLocals := 0, code := prog_14_method_1_code, exceptionTable := #[], attributes := #[] }
def k6m0 : Method := { name := "values", desc := "()[Lcom/example/vigilant_consumer/vigilantconsumer/ErrorCode;", sig := { parameters := [], returnType := some (.array (.object "com/example/vigilant_consumer/vigilantconsumer/ErrorCode")) }, accessFlags := 9, code := some k6c0 }
def k6c1 : Code := { maxStack := 2, maxLocals := 5, code := prog_14_method_4_code, exceptionTable := #[], attributes := #[] }
def k6m1 : Method := { name := "of", desc := "(S)Lcom/example/vigilant_consumer/vigilantconsumer/ErrorCode;", sig := { parameters := [.short], returnType := some (.object "com/example/vigilant_consumer/vigilantconsumer/ErrorCode") }, accessFlags := 8, code := some k6c1 }
/-- com/example/vigilant_consumer/vigilantconsumer/ErrorCode -/
def k6 : Class := { plain "com/example/vigilant_consumer/vigilantconsumer/ErrorCode" (some 5) with
  accessFlags := 16432
  interfaces := #[]
  cf := some (fileOf pool6 1 #[.nestMembers #[109]] #[{ accessFlags := 9, nameIndex := 102, descriptorIndex := 103, attributes := #[] }, { accessFlags := 8, nameIndex := 118, descriptorIndex := 119, attributes := #[] }] 16432 83 #[] #[{ accessFlags := 16409, nameIndex := 5, descriptorIndex := 6, attributes := #[] }, { accessFlags := 16409, nameIndex := 9, descriptorIndex := 6, attributes := #[] }, { accessFlags := 16409, nameIndex := 12, descriptorIndex := 6, attributes := #[] }, { accessFlags := 16409, nameIndex := 15, descriptorIndex := 6, attributes := #[] }, { accessFlags := 16409, nameIndex := 18, descriptorIndex := 6, attributes := #[] }, { accessFlags := 16409, nameIndex := 21, descriptorIndex := 6, attributes := #[] }, { accessFlags := 16409, nameIndex := 24, descriptorIndex := 6, attributes := #[] }, { accessFlags := 16409, nameIndex := 27, descriptorIndex := 6, attributes := #[] }, { accessFlags := 16409, nameIndex := 30, descriptorIndex := 6, attributes := #[] }, { accessFlags := 16409, nameIndex := 33, descriptorIndex := 6, attributes := #[] }, { accessFlags := 16409, nameIndex := 36, descriptorIndex := 6, attributes := #[] }, { accessFlags := 16409, nameIndex := 39, descriptorIndex := 6, attributes := #[] }, { accessFlags := 16409, nameIndex := 42, descriptorIndex := 6, attributes := #[] }, { accessFlags := 16409, nameIndex := 45, descriptorIndex := 6, attributes := #[] }, { accessFlags := 16409, nameIndex := 48, descriptorIndex := 6, attributes := #[] }, { accessFlags := 16409, nameIndex := 51, descriptorIndex := 6, attributes := #[] }, { accessFlags := 16409, nameIndex := 54, descriptorIndex := 6, attributes := #[] }, { accessFlags := 16409, nameIndex := 57, descriptorIndex := 6, attributes := #[] }, { accessFlags := 16409, nameIndex := 60, descriptorIndex := 6, attributes := #[] }, { accessFlags := 16409, nameIndex := 63, descriptorIndex := 6, attributes := #[] }, { accessFlags := 16409, nameIndex := 66, descriptorIndex := 6, attributes := #[] }, { accessFlags := 16409, nameIndex := 69, descriptorIndex := 6, attributes := #[] }, { accessFlags := 16409, nameIndex := 72, descriptorIndex := 6, attributes := #[] }, { accessFlags := 16, nameIndex := 94, descriptorIndex := 95, attributes := #[] }, { accessFlags := 16, nameIndex := 98, descriptorIndex := 99, attributes := #[] }, { accessFlags := 4122, nameIndex := 75, descriptorIndex := 76, attributes := #[] }])
  fields := #[{ name := "NONE", type := (.object "com/example/vigilant_consumer/vigilantconsumer/ErrorCode"), accessFlags := 16409, slot := 0, constantValue := 0 }, { name := "OFFSET_OUT_OF_RANGE", type := (.object "com/example/vigilant_consumer/vigilantconsumer/ErrorCode"), accessFlags := 16409, slot := 1, constantValue := 0 }, { name := "UNKNOWN_TOPIC_OR_PARTITION", type := (.object "com/example/vigilant_consumer/vigilantconsumer/ErrorCode"), accessFlags := 16409, slot := 2, constantValue := 0 }, { name := "LEADER_NOT_AVAILABLE", type := (.object "com/example/vigilant_consumer/vigilantconsumer/ErrorCode"), accessFlags := 16409, slot := 3, constantValue := 0 }, { name := "NOT_LEADER_OR_FOLLOWER", type := (.object "com/example/vigilant_consumer/vigilantconsumer/ErrorCode"), accessFlags := 16409, slot := 4, constantValue := 0 }, { name := "REPLICA_NOT_AVAILABLE", type := (.object "com/example/vigilant_consumer/vigilantconsumer/ErrorCode"), accessFlags := 16409, slot := 5, constantValue := 0 }, { name := "COORDINATOR_LOAD_IN_PROGRESS", type := (.object "com/example/vigilant_consumer/vigilantconsumer/ErrorCode"), accessFlags := 16409, slot := 6, constantValue := 0 }, { name := "COORDINATOR_NOT_AVAILABLE", type := (.object "com/example/vigilant_consumer/vigilantconsumer/ErrorCode"), accessFlags := 16409, slot := 7, constantValue := 0 }, { name := "NOT_COORDINATOR", type := (.object "com/example/vigilant_consumer/vigilantconsumer/ErrorCode"), accessFlags := 16409, slot := 8, constantValue := 0 }, { name := "ILLEGAL_GENERATION", type := (.object "com/example/vigilant_consumer/vigilantconsumer/ErrorCode"), accessFlags := 16409, slot := 9, constantValue := 0 }, { name := "INCONSISTENT_GROUP_PROTOCOL", type := (.object "com/example/vigilant_consumer/vigilantconsumer/ErrorCode"), accessFlags := 16409, slot := 10, constantValue := 0 }, { name := "UNKNOWN_MEMBER_ID", type := (.object "com/example/vigilant_consumer/vigilantconsumer/ErrorCode"), accessFlags := 16409, slot := 11, constantValue := 0 }, { name := "INVALID_SESSION_TIMEOUT", type := (.object "com/example/vigilant_consumer/vigilantconsumer/ErrorCode"), accessFlags := 16409, slot := 12, constantValue := 0 }, { name := "REBALANCE_IN_PROGRESS", type := (.object "com/example/vigilant_consumer/vigilantconsumer/ErrorCode"), accessFlags := 16409, slot := 13, constantValue := 0 }, { name := "TOPIC_AUTHORIZATION_FAILED", type := (.object "com/example/vigilant_consumer/vigilantconsumer/ErrorCode"), accessFlags := 16409, slot := 14, constantValue := 0 }, { name := "GROUP_AUTHORIZATION_FAILED", type := (.object "com/example/vigilant_consumer/vigilantconsumer/ErrorCode"), accessFlags := 16409, slot := 15, constantValue := 0 }, { name := "UNSUPPORTED_VERSION", type := (.object "com/example/vigilant_consumer/vigilantconsumer/ErrorCode"), accessFlags := 16409, slot := 16, constantValue := 0 }, { name := "INVALID_REQUEST", type := (.object "com/example/vigilant_consumer/vigilantconsumer/ErrorCode"), accessFlags := 16409, slot := 17, constantValue := 0 }, { name := "KAFKA_STORAGE_ERROR", type := (.object "com/example/vigilant_consumer/vigilantconsumer/ErrorCode"), accessFlags := 16409, slot := 18, constantValue := 0 }, { name := "FENCED_LEADER_EPOCH", type := (.object "com/example/vigilant_consumer/vigilantconsumer/ErrorCode"), accessFlags := 16409, slot := 19, constantValue := 0 }, { name := "UNKNOWN_LEADER_EPOCH", type := (.object "com/example/vigilant_consumer/vigilantconsumer/ErrorCode"), accessFlags := 16409, slot := 20, constantValue := 0 }, { name := "OFFSET_NOT_AVAILABLE", type := (.object "com/example/vigilant_consumer/vigilantconsumer/ErrorCode"), accessFlags := 16409, slot := 21, constantValue := 0 }, { name := "MEMBER_ID_REQUIRED", type := (.object "com/example/vigilant_consumer/vigilantconsumer/ErrorCode"), accessFlags := 16409, slot := 22, constantValue := 0 }, { name := "code", type := .short, accessFlags := 16, slot := 3, constantValue := 0 }, { name := "retry", type := (.object "com/example/vigilant_consumer/vigilantconsumer/ErrorCode$Retry"), accessFlags := 16, slot := 4, constantValue := 0 }, { name := "$VALUES", type := (.array (.object "com/example/vigilant_consumer/vigilantconsumer/ErrorCode")), accessFlags := 4122, slot := 23, constantValue := 0 }]
  methods := #[k6m0, k6m1]
  instanceTypes := #[(.object "java/lang/String"), .int, .int, .short, (.object "com/example/vigilant_consumer/vigilantconsumer/ErrorCode$Retry")]
  staticTypes := #[(.object "com/example/vigilant_consumer/vigilantconsumer/ErrorCode"), (.object "com/example/vigilant_consumer/vigilantconsumer/ErrorCode"), (.object "com/example/vigilant_consumer/vigilantconsumer/ErrorCode"), (.object "com/example/vigilant_consumer/vigilantconsumer/ErrorCode"), (.object "com/example/vigilant_consumer/vigilantconsumer/ErrorCode"), (.object "com/example/vigilant_consumer/vigilantconsumer/ErrorCode"), (.object "com/example/vigilant_consumer/vigilantconsumer/ErrorCode"), (.object "com/example/vigilant_consumer/vigilantconsumer/ErrorCode"), (.object "com/example/vigilant_consumer/vigilantconsumer/ErrorCode"), (.object "com/example/vigilant_consumer/vigilantconsumer/ErrorCode"), (.object "com/example/vigilant_consumer/vigilantconsumer/ErrorCode"), (.object "com/example/vigilant_consumer/vigilantconsumer/ErrorCode"), (.object "com/example/vigilant_consumer/vigilantconsumer/ErrorCode"), (.object "com/example/vigilant_consumer/vigilantconsumer/ErrorCode"), (.object "com/example/vigilant_consumer/vigilantconsumer/ErrorCode"), (.object "com/example/vigilant_consumer/vigilantconsumer/ErrorCode"), (.object "com/example/vigilant_consumer/vigilantconsumer/ErrorCode"), (.object "com/example/vigilant_consumer/vigilantconsumer/ErrorCode"), (.object "com/example/vigilant_consumer/vigilantconsumer/ErrorCode"), (.object "com/example/vigilant_consumer/vigilantconsumer/ErrorCode"), (.object "com/example/vigilant_consumer/vigilantconsumer/ErrorCode"), (.object "com/example/vigilant_consumer/vigilantconsumer/ErrorCode"), (.object "com/example/vigilant_consumer/vigilantconsumer/ErrorCode"), (.array (.object "com/example/vigilant_consumer/vigilantconsumer/ErrorCode"))]
  resolved := Array.replicate 198 none
  statics := some 0 }

def pool7 : Array CpInfo := pool [(1, .class_ 2), (0, u "java/lang/Cloneable"), (0, .class_ 4), (0, u "java/lang/Object")] 2

/-- java/lang/Cloneable -/
def k7 : Class := { plain "java/lang/Cloneable" (some 0) with
  accessFlags := 1537
  interfaces := #[]
  cf := some (fileOf pool7 1 #[] #[] 1537 3 #[] #[])
  fields := #[]
  methods := #[]
  instanceTypes := #[]
  staticTypes := #[]
  resolved := Array.replicate 7 none
  statics := none }

/-- the primitive byte -/
def k8 : Class := { plain "byte" none with kind := .primitive 'B', accessFlags := 0x411 }
/-- [B -/
def k9 : Class := { plain "[B" (some 0) with kind := .array 8 .byte, interfaces := #[7, 4], accessFlags := 1041 }

/-- the primitive int -/
def k10 : Class := { plain "int" none with kind := .primitive 'I', accessFlags := 0x411 }
/-- [I -/
def k11 : Class := { plain "[I" (some 0) with kind := .array 10 .int, interfaces := #[7, 4], accessFlags := 1041 }

/-- [Lcom/example/vigilant_consumer/vigilantconsumer/ErrorCode; -/
def k12 : Class := { plain "[Lcom/example/vigilant_consumer/vigilantconsumer/ErrorCode;" (some 0) with kind := .array 6 (.object "com/example/vigilant_consumer/vigilantconsumer/ErrorCode"), interfaces := #[7, 4], accessFlags := 1041 }

def heap : Heap := #[{ cls := 6, slots := #[.ref 2, .ref 3, .ref 4, .ref 5, .ref 6, .ref 7, .ref 8, .ref 9, .ref 10, .ref 11, .ref 12, .ref 13, .ref 14, .ref 15, .ref 16, .ref 17, .ref 18, .ref 19, .ref 20, .ref 21, .ref 22, .ref 23, .ref 24, .ref 1], vm := .statics 6 },
  { cls := 12, slots := #[.ref 2, .ref 3, .ref 4, .ref 5, .ref 6, .ref 7, .ref 8, .ref 9, .ref 10, .ref 11, .ref 12, .ref 13, .ref 14, .ref 15, .ref 16, .ref 17, .ref 18, .ref 19, .ref 20, .ref 21, .ref 22, .ref 23, .ref 24], vm := .none },
  { cls := 6, slots := #[.null, .int 0, .int 0, .int 0, .null], vm := .none },
  { cls := 6, slots := #[.null, .int 1, .int 0, .int 1, .null], vm := .none },
  { cls := 6, slots := #[.null, .int 2, .int 0, .int 3, .null], vm := .none },
  { cls := 6, slots := #[.null, .int 3, .int 0, .int 5, .null], vm := .none },
  { cls := 6, slots := #[.null, .int 4, .int 0, .int 6, .null], vm := .none },
  { cls := 6, slots := #[.null, .int 5, .int 0, .int 9, .null], vm := .none },
  { cls := 6, slots := #[.null, .int 6, .int 0, .int 14, .null], vm := .none },
  { cls := 6, slots := #[.null, .int 7, .int 0, .int 15, .null], vm := .none },
  { cls := 6, slots := #[.null, .int 8, .int 0, .int 16, .null], vm := .none },
  { cls := 6, slots := #[.null, .int 9, .int 0, .int 22, .null], vm := .none },
  { cls := 6, slots := #[.null, .int 10, .int 0, .int 23, .null], vm := .none },
  { cls := 6, slots := #[.null, .int 11, .int 0, .int 25, .null], vm := .none },
  { cls := 6, slots := #[.null, .int 12, .int 0, .int 26, .null], vm := .none },
  { cls := 6, slots := #[.null, .int 13, .int 0, .int 27, .null], vm := .none },
  { cls := 6, slots := #[.null, .int 14, .int 0, .int 29, .null], vm := .none },
  { cls := 6, slots := #[.null, .int 15, .int 0, .int 30, .null], vm := .none },
  { cls := 6, slots := #[.null, .int 16, .int 0, .int 35, .null], vm := .none },
  { cls := 6, slots := #[.null, .int 17, .int 0, .int 42, .null], vm := .none },
  { cls := 6, slots := #[.null, .int 18, .int 0, .int 56, .null], vm := .none },
  { cls := 6, slots := #[.null, .int 19, .int 0, .int 74, .null], vm := .none },
  { cls := 6, slots := #[.null, .int 20, .int 0, .int 75, .null], vm := .none },
  { cls := 6, slots := #[.null, .int 21, .int 0, .int 78, .null], vm := .none },
  { cls := 6, slots := #[.null, .int 22, .int 0, .int 79, .null], vm := .none }]
def classes : Array Class := #[k0, k1, k2, k3, k4, k5, k6, k7, k8, k9, k10, k11, k12]
def interned : List (Array UInt16 × Addr) := []
def slotsUsed : Nat := 162
def theMethod : MethodId := ⟨1, 2⟩
def args0 : Array Value := #[.int 77, .int 9]
def aboutOver (below : List Frame) : State where
  vm := { classes := classes, interned := interned.toArray }
  heap := heap
  slotsUsed := slotsUsed
  threads := #[{ frames := .invoking theMethod args0 :: below }]
def below0 : List Frame := [.native { method := ⟨0, 0⟩, args := #[] }]
def about1 : State := aboutOver below0
def p0 : Program := .bare "" "" ""
def e0 : Env := launch0.env 0 0 0
theorem w_frames : about1.frames = Frame.invoking theMethod args0 :: below0 := rfl
set_option maxRecDepth 65536 in
theorem w_args : argsFit about1.vm theMethod args0 = true := by decide +kernel
set_option maxRecDepth 65536 in
theorem w_heap : heapFits about1 = true := by decide +kernel
set_option maxRecDepth 65536 in
theorem w_runnable : about1.curStatus? = some .runnable := by decide +kernel
set_option maxRecDepth 65536 in
theorem w_alone : about1.alone = true := by decide +kernel
set_option maxRecDepth 65536 in
theorem w_named : about1.methodNamed? x = some theMethod := by decide +kernel
set_option maxRecDepth 65536 in
theorem w_hears : about1.hears theMethod below0 = true := by decide +kernel
set_option maxRecDepth 65536 in
theorem w_ripe : about1.ripe theMethod args0 below0 = true := by decide +kernel
theorem w_running : about1.status = .running := rfl
set_option maxRecDepth 65536 in
theorem w_room : about1.hasRoom e0.platform room_1 = true :=
  launch0.hasRoom_least _ room_1 (by decide +kernel) (by decide +kernel) (by decide +kernel) (by decide +kernel) (by decide +kernel) (by decide +kernel)
theorem allAtoms_all (ts : List Jvm.Cond) (a : Array Jvm.Value) (st : Jvm.State) : (allAtoms ts).before a st = ts.all (fun c => c.before a st) := by
  induction ts with
  | nil => rfl
  | cons c t ih =>
    show (Jvm.Cond.and c (allAtoms t)).before a st = _
    rw [Jvm.Cond.before_and, ih, List.all_cons]
def words1 : List Jvm.Cond := Jvm.Cond.code x code maxLocals ret :: tables_1
/-- a 'code' word, met by the world's own term for the bytes: nothing is compared byte by byte -/
theorem code_word {y : MethodName} {bytes : ByteArray} {mx : Nat} {rt : Option FieldType} {a : Array Value} {s : State} {m : MethodId} {meth : Method} {c : Code} (h1 : s.methodNamed? y = some m) (h2 : s.vm.method? m = some meth) (h3 : meth.code = some c) (h4 : c.code = bytes)
    (h5 : (c.maxLocals == mx && c.exceptionTable.isEmpty && decide (c.maxStack ≤ mostOperands) && decide (meth.sig.returnType = rt) && !meth.locks && decide (parseMethodDescriptor y.desc = some meth.sig)) = true) : (Jvm.Cond.code y bytes mx rt).before a s = true := by
  simp only [Bool.and_eq_true, beq_iff_eq, Bool.not_eq_true', decide_eq_true_eq] at h5
  obtain ⟨⟨⟨⟨⟨g1, g2⟩, g3⟩, g4⟩, g5⟩, g6⟩ := h5
  simp [Cond.before, Cond.holds, Cond.value, h1, h2, h3, h4, g1, g2, g3, g4, g5, g6]
def isCode : Jvm.Cond → Bool
  | .code _ _ _ _ => true
  | _ => false
theorem all_split {L : List Jvm.Cond} {P : Jvm.Cond → Bool} (h1 : L.all (fun c => isCode c || P c) = true) (h2 : ∀ c ∈ L.filter isCode, P c = true) : L.all P = true := by
  refine List.all_eq_true.mpr fun c hc => ?_
  have h := List.all_eq_true.mp h1 c hc
  rcases Bool.eq_false_or_eq_true (isCode c) with hi | hi
  · exact h2 c (List.mem_filter.mpr ⟨hc, hi⟩)
  · simpa [hi] using h
set_option maxRecDepth 65536 in
theorem w_c0 : (Jvm.Cond.code x code maxLocals ret).before args0 about1 = true := code_word (m := ⟨1, 2⟩) (meth := k1m2) (c := k1c2) (by decide +kernel) rfl rfl rfl (by decide +kernel)
set_option maxRecDepth 65536 in
theorem w_c1 : (Jvm.Cond.code ({ cls := "com/example/vigilant_consumer/vigilantconsumer/ErrorCode", name := "of", desc := "(S)Lcom/example/vigilant_consumer/vigilantconsumer/ErrorCode;" } : Jvm.MethodName) prog_14_method_4_code (5 : Nat) (Option.some (Jvm.ClassFile.FieldType.object "com/example/vigilant_consumer/vigilantconsumer/ErrorCode"))).before args0 about1 = true := code_word (m := ⟨6, 1⟩) (meth := k6m1) (c := k6c1) (by decide +kernel) rfl rfl rfl (by decide +kernel)
set_option maxRecDepth 65536 in
theorem w_c2 : (Jvm.Cond.code ({ cls := "com/example/vigilant_consumer/vigilantconsumer/ErrorCode", name := "values", desc := "()[Lcom/example/vigilant_consumer/vigilantconsumer/ErrorCode;" } : Jvm.MethodName) prog_14_method_1_code (0 : Nat) (Option.some (Jvm.ClassFile.FieldType.array (Jvm.ClassFile.FieldType.object "com/example/vigilant_consumer/vigilantconsumer/ErrorCode")))).before args0 about1 = true := code_word (m := ⟨6, 0⟩) (meth := k6m0) (c := k6c0) (by decide +kernel) rfl rfl rfl (by decide +kernel)
set_option maxRecDepth 65536 in
theorem w_c3 : (Jvm.Cond.code ({ cls := "com/example/vigilant_consumer/vigilantconsumer/ErrorCodeOfPinLaw", name := "expected", desc := "(I)Lcom/example/vigilant_consumer/vigilantconsumer/ErrorCode;" } : Jvm.MethodName) method_2_code (1 : Nat) (Option.some (Jvm.ClassFile.FieldType.object "com/example/vigilant_consumer/vigilantconsumer/ErrorCode"))).before args0 about1 = true := code_word (m := ⟨1, 1⟩) (meth := k1m1) (c := k1c1) (by decide +kernel) rfl rfl rfl (by decide +kernel)
def codes1 : List Jvm.Cond := [Jvm.Cond.code x code maxLocals ret, Jvm.Cond.code ({ cls := "com/example/vigilant_consumer/vigilantconsumer/ErrorCode", name := "of", desc := "(S)Lcom/example/vigilant_consumer/vigilantconsumer/ErrorCode;" } : Jvm.MethodName) prog_14_method_4_code (5 : Nat) (Option.some (Jvm.ClassFile.FieldType.object "com/example/vigilant_consumer/vigilantconsumer/ErrorCode")), Jvm.Cond.code ({ cls := "com/example/vigilant_consumer/vigilantconsumer/ErrorCode", name := "values", desc := "()[Lcom/example/vigilant_consumer/vigilantconsumer/ErrorCode;" } : Jvm.MethodName) prog_14_method_1_code (0 : Nat) (Option.some (Jvm.ClassFile.FieldType.array (Jvm.ClassFile.FieldType.object "com/example/vigilant_consumer/vigilantconsumer/ErrorCode"))), Jvm.Cond.code ({ cls := "com/example/vigilant_consumer/vigilantconsumer/ErrorCodeOfPinLaw", name := "expected", desc := "(I)Lcom/example/vigilant_consumer/vigilantconsumer/ErrorCode;" } : Jvm.MethodName) method_2_code (1 : Nat) (Option.some (Jvm.ClassFile.FieldType.object "com/example/vigilant_consumer/vigilantconsumer/ErrorCode"))]
set_option maxRecDepth 65536 in
theorem codes_eq : words1.filter isCode = codes1 := rfl
theorem w_codes : ∀ c ∈ words1.filter isCode, c.before args0 about1 = true := by
  rw [codes_eq]
  intro c hc
  simp only [codes1, List.mem_cons, List.not_mem_nil, or_false] at hc
  rcases hc with rfl | rfl | rfl | rfl
  · exact w_c0
  · exact w_c1
  · exact w_c2
  · exact w_c3
set_option maxRecDepth 65536 in
theorem w_t1 : (words1.take 24).all (fun c => isCode c || c.before args0 about1) = true := by decide +kernel
set_option maxRecDepth 65536 in
theorem w_t2 : ((words1.drop 24).take 24).all (fun c => isCode c || c.before args0 about1) = true := by decide +kernel
set_option maxRecDepth 65536 in
theorem w_t3 : (((words1.drop 24).drop 24).take 24).all (fun c => isCode c || c.before args0 about1) = true := by decide +kernel
set_option maxRecDepth 65536 in
theorem w_t4 : (((words1.drop 24).drop 24).drop 24).all (fun c => isCode c || c.before args0 about1) = true := by decide +kernel
theorem w_tables : (allAtoms (Jvm.Cond.code x code maxLocals ret :: tables_1)).before args0 about1 = true := by
  rw [allAtoms_all]
  show words1.all (fun c => c.before args0 about1) = true
  refine all_split ?_ w_codes
  rw [← List.take_append_drop 24 words1, List.all_append, w_t1, ← List.take_append_drop 24 (words1.drop 24), List.all_append, w_t2, ← List.take_append_drop 24 ((words1.drop 24).drop 24), List.all_append, w_t3, w_t4]
  rfl
set_option maxRecDepth 65536 in
theorem w_case : (Jvm.Cond.and given_1 narrow_1).before args0 about1 = true := by decide +kernel
theorem w_applies : (headSpec (Jvm.Cond.code x code maxLocals ret :: tables_1) room_1).applies x e0.platform about1 = true :=
  (Spec.applies_iff w_frames).mpr ⟨w_running, w_runnable, w_alone, w_named, w_hears, w_ripe, w_room, w_tables⟩
theorem atStart : AtStart classFile x code maxLocals ret World_1 tables_1 room_1 Calls_1 rest_1 Pre_1 launch0 p0 e0 about1 theMethod args0 below0 :=
  ⟨lists_1, trivial, launch0.admits_env _ _ _, launch0.least_env, fairChoices_fair.cas, fairChoices_fair.clock, w_frames, w_args, w_heap, w_applies, trivial, trivial, w_case⟩
end start1
theorem witness_1 : WitnessClaimed_1 := ⟨start1.p0, start1.e0, start1.about1, start1.theMethod, start1.args0, start1.below0, start1.atStart⟩
end Jvm.Pilot.@@N@@
