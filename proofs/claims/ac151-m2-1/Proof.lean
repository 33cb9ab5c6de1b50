import JvmDerived
import JvmDerived.Pilot.@@N@@Statement
import JvmDerived.Pilot.@@N@@Code
set_option linter.unusedVariables false
set_option linter.unusedSimpArgs false
namespace Jvm.RoadKit
open Sem ClassFile Op Lib Jvm.Stand Jvm.Free Jvm.LawKit
section New
variable {p : Program} {l : Launch} {e : Env} {R : Room} {s : State} {m : MethodId} {args : Array Value} {below : List Frame} {meth : Method} {c : Code} {T : State} {locs : List Loc} {cells slots : Nat}
theorem retI (X : Stand p l e R s m args below meth c T locs cells slots) (hx : p.tables.exec = Jvm.exec) {pc : Nat} {Ls : Array Slot} {z : Int32} {rest : List Value} (hret : meth.sig.returnType = some .int) (hd : decode c.code pc = .ok (.ireturn, 1)) {fs : List Frame}
    (hl : ∀ (f : JFrame) (acts : List Action), f.method = m → f.locked = none → f.entered = [] → (doReturn e (T.setTop f) acts (some (.int z))).1 = T.setFrames fs) : Steps p.tables e below (T.setTop (mkF m pc Ls (.int z :: rest))) (T.setFrames fs) := by
  have hm' : T.vm.method? m = some meth := X.method'
  have hn : narrow .int (.int z) = .int z := rfl
  show Steps p.tables e below (T.setTop { method := m, pc := pc, locals := Ls, stack := _ :: rest, locked := none }) _
  jvm_step X.here [X.here.top, hx, hd, hm', hret, hn]
  first | (intro acts; rw [hl _ acts rfl rfl rfl]) | rw [hl _ _ rfl rfl rfl]
  exact Steps.refl _
end New
end Jvm.RoadKit
namespace Jvm.Pilot.@@N@@
open Jvm Jvm.ClassFile Sem Op Lib Jvm.Free Jvm.Stand Jvm.LawKit Jvm.RoadKit Bundle Jvm.Pilot.@@N@@.Jvm.D
theorem own_nb {P : Prop} [Decidable P] : nar .boolean (if P then (1 : Int32) else (0 : Int32)) = if P then (1 : Int32) else (0 : Int32) := by split <;> rfl
theorem own_nb2 {z : Int32} (h : z = 0 ∨ z = 1) : nar .boolean z = z := by rcases h with rfl | rfl <;> rfl
theorem own_01 {P : Prop} [Decidable P] : (if P then (1 : Int32) else (0 : Int32)) = 0 ∨ (if P then (1 : Int32) else (0 : Int32)) = 1 := by split <;> simp
theorem own_iv {a b : Int32} (h : a = b) : some (Value.int a) = some (Value.int b) := by rw [h]
theorem own_lv {a b : Int64} (h : a = b) : some (Value.long a) = some (Value.long b) := by rw [h]
theorem own_fldI {args : Array Value} {s : State} {t : Term} {C n d : String} {a : Addr} {k : Int32} (ht : t.eval args s none [] s = some (.ref a)) (h : (Jvm.Cond.eq (.field t C n d) (.int k)).value args s none s [] = some true) : Fld s s.heap a C n d (.int k) := by
  apply Fld.start
  rw [← fld_at (C := C) (n := n) (dd := d) ht]
  cases hx : (Term.field t C n d).eval args s none [] s with
  | none => simp [Cond.value, hx] at h
  | some x => cases x <;> simp [Cond.value, hx, Term.int_eval] at h ⊢ <;> exact h
theorem own_d1_0 : decode method_2_code 0 = .ok (.iload_n 0, 1) := by decide +kernel
theorem own_d1_1 : decode method_2_code 1 = .ok (.ifCond .ne 7, 3) := by decide +kernel
theorem own_d1_4 : decode method_2_code 4 = .ok (.getstatic 7, 3) := by decide +kernel
theorem own_d1_7 : decode method_2_code 7 = .ok (.areturn, 1) := by decide +kernel
theorem own_d1_8 : decode method_2_code 8 = .ok (.iload_n 0, 1) := by decide +kernel
theorem own_d1_9 : decode method_2_code 9 = .ok (.iconst 1, 1) := by decide +kernel
theorem own_d1_10 : decode method_2_code 10 = .ok (.if_icmp .ne 7, 3) := by decide +kernel
theorem own_d1_13 : decode method_2_code 13 = .ok (.getstatic 13, 3) := by decide +kernel
theorem own_d1_16 : decode method_2_code 16 = .ok (.areturn, 1) := by decide +kernel
theorem own_d1_17 : decode method_2_code 17 = .ok (.iload_n 0, 1) := by decide +kernel
theorem own_d1_18 : decode method_2_code 18 = .ok (.iconst 2, 1) := by decide +kernel
theorem own_d1_19 : decode method_2_code 19 = .ok (.if_icmp .ne 7, 3) := by decide +kernel
theorem own_d1_22 : decode method_2_code 22 = .ok (.getstatic 16, 3) := by decide +kernel
theorem own_d1_25 : decode method_2_code 25 = .ok (.areturn, 1) := by decide +kernel
theorem own_d1_26 : decode method_2_code 26 = .ok (.iload_n 0, 1) := by decide +kernel
theorem own_d1_27 : decode method_2_code 27 = .ok (.iconst 3, 1) := by decide +kernel
theorem own_d1_28 : decode method_2_code 28 = .ok (.if_icmp .ne 7, 3) := by decide +kernel
theorem own_d1_31 : decode method_2_code 31 = .ok (.getstatic 19, 3) := by decide +kernel
theorem own_d1_34 : decode method_2_code 34 = .ok (.areturn, 1) := by decide +kernel
theorem own_d1_35 : decode method_2_code 35 = .ok (.iload_n 0, 1) := by decide +kernel
theorem own_d1_36 : decode method_2_code 36 = .ok (.iconst 4, 1) := by decide +kernel
theorem own_d1_37 : decode method_2_code 37 = .ok (.if_icmp .ne 7, 3) := by decide +kernel
theorem own_d1_40 : decode method_2_code 40 = .ok (.getstatic 22, 3) := by decide +kernel
theorem own_d1_43 : decode method_2_code 43 = .ok (.areturn, 1) := by decide +kernel
theorem own_d1_44 : decode method_2_code 44 = .ok (.iload_n 0, 1) := by decide +kernel
theorem own_d1_45 : decode method_2_code 45 = .ok (.iconst 5, 1) := by decide +kernel
theorem own_d1_46 : decode method_2_code 46 = .ok (.if_icmp .ne 7, 3) := by decide +kernel
theorem own_d1_49 : decode method_2_code 49 = .ok (.getstatic 25, 3) := by decide +kernel
theorem own_d1_52 : decode method_2_code 52 = .ok (.areturn, 1) := by decide +kernel
theorem own_d1_53 : decode method_2_code 53 = .ok (.iload_n 0, 1) := by decide +kernel
theorem own_d1_54 : decode method_2_code 54 = .ok (.bipush 6, 2) := by decide +kernel
theorem own_d1_56 : decode method_2_code 56 = .ok (.if_icmp .ne 7, 3) := by decide +kernel
theorem own_d1_59 : decode method_2_code 59 = .ok (.getstatic 28, 3) := by decide +kernel
theorem own_d1_62 : decode method_2_code 62 = .ok (.areturn, 1) := by decide +kernel
theorem own_d1_63 : decode method_2_code 63 = .ok (.getstatic 31, 3) := by decide +kernel
theorem own_d1_66 : decode method_2_code 66 = .ok (.areturn, 1) := by decide +kernel
theorem own_pn0 : plainName "com/example/longhand/longhand/trig/RatioOddPinLaw" = true := by first | (simp [plainName, overriddenIn]; done) | decide +kernel
theorem own_ef1 (m : MethodId) (x0 : Int32) : entryFrame m #[(.int x0)] 1 = mkF m 0 #[.val (.int x0)] [] := by first | (simp [entryFrame, mkF, argsToLocals, Value.category]; done) | rfl
def own_Q_own_pick (Z : State) (u : Int32) (wSIN : Addr) (wCOS : Addr) (wTAN : Addr) (wCOT : Addr) (wSINH : Addr) (wCOSH : Addr) (wTANH : Addr) (wCOTH : Addr) (h0 : Heap) (n0 : Nat) (v : Option Value) (h : Heap) (L : List Loc) : Prop := v = some (.ref (if u = 0 then wSIN else if u = 1 then wCOS else if u = 2 then wTAN else if u = 3 then wCOT else if u = 4 then wSINH else if u = 5 then wCOSH else if u = 6 then wTANH else wCOTH)) ∧ Fr n0 L ∧ h = h0
set_option maxRecDepth 65536 in
set_option maxHeartbeats 40000000 in
theorem own_pick (l : Launch) (Z : State) (a0 : Array Value) (hw : ∀ d ∈ tables_1, d.before a0 Z = true) (ws : List Jvm.Cond) (u : Int32) (wSIN : Addr) (wCOS : Addr) (wTAN : Addr) (wCOT : Addr) (wSINH : Addr) (wCOSH : Addr) (wTANH : Addr) (wCOTH : Addr) (h0 : Heap) (n0 : Nat) (Z0 : n0 ≤ h0.size) (S_SIN : Sta Z h0 "com/example/longhand/longhand/trig/Ratio" "SIN" "Lcom/example/longhand/longhand/trig/Ratio;" (.ref wSIN)) (S_COS : Sta Z h0 "com/example/longhand/longhand/trig/Ratio" "COS" "Lcom/example/longhand/longhand/trig/Ratio;" (.ref wCOS)) (S_TAN : Sta Z h0 "com/example/longhand/longhand/trig/Ratio" "TAN" "Lcom/example/longhand/longhand/trig/Ratio;" (.ref wTAN)) (S_COT : Sta Z h0 "com/example/longhand/longhand/trig/Ratio" "COT" "Lcom/example/longhand/longhand/trig/Ratio;" (.ref wCOT)) (S_SINH : Sta Z h0 "com/example/longhand/longhand/trig/Ratio" "SINH" "Lcom/example/longhand/longhand/trig/Ratio;" (.ref wSINH)) (S_COSH : Sta Z h0 "com/example/longhand/longhand/trig/Ratio" "COSH" "Lcom/example/longhand/longhand/trig/Ratio;" (.ref wCOSH)) (S_TANH : Sta Z h0 "com/example/longhand/longhand/trig/Ratio" "TANH" "Lcom/example/longhand/longhand/trig/Ratio;" (.ref wTANH)) (S_COTH : Sta Z h0 "com/example/longhand/longhand/trig/Ratio" "COTH" "Lcom/example/longhand/longhand/trig/Ratio;" (.ref wCOTH)) :
    MetFree l (⟨"com/example/longhand/longhand/trig/RatioOddPinLaw", "pick", "(I)Lcom/example/longhand/longhand/trig/Ratio;"⟩ : MethodName) (head1 (Jvm.Cond.code (⟨"com/example/longhand/longhand/trig/RatioOddPinLaw", "pick", "(I)Lcom/example/longhand/longhand/trig/Ratio;"⟩ : MethodName) method_2_code 1 (some (.object "com/example/longhand/longhand/trig/Ratio")) :: ws) ({ frames := 0, cells := 0, slots := 0, locals := 0 } : Room)) (fun as_ U => as_ = #[(.int u)] ∧ Z.Warmed39 U.vm ∧ U.heap = h0) (fun _ _ _ _ _ => True) (fun _ U o U' => ∃ v L, o = .returned v ∧ own_Q_own_pick Z u wSIN wCOS wTAN wCOT wSINH wCOSH wTANH wCOTH h0 n0 v U'.heap L ∧ FrameEnd U o U' L ({ frames := 0, cells := 0, slots := 0, locals := 0 } : Room).cells ({ frames := 0, cells := 0, slots := 0, locals := 0 } : Room).slots) := by
  refine MetFree.of_bodySF (plainFor_of_name own_pn0) hisR ?_
  intro p e s m args below meth c s₁ Bd hml0 hP hK
  obtain ⟨rfl, hZ, hh⟩ := hP
  have hx := Bd.exec
  have hby := Bd.bytes
  have hml : c.maxLocals = 1 := hml0
  have hown : s.vm.findClass "com/example/longhand/longhand/trig/RatioOddPinLaw" = some m.cls := findClass_of_methodNamed Bd.named
  have hnm := (name_of_methodNamed Bd.named Bd.method).1
  have X0 : Stand p l e ({ frames := 0, cells := 0, slots := 0, locals := 0 } : Room) s m #[(.int u)] below meth c s₁ [] 0 0 := Stand.of_body Bd
  have e0 : s₁.heap = h0 := by rw [← hh, Bd.state]; rfl
  have N0 := Fr.nil n0
  have pre0 : ∀ t, Steps p.tables e below (s₁.setTop (mkF m 0 #[.val (.int u)] [])) t → Steps p.tables e below (s₁.setTop (entryFrame m #[(.int u)] 1)) t := fun t k => castTop (own_ef1 m u) k
  have pre1 : ∀ t, Steps p.tables e below (s₁.setTop (mkF m 1 #[.val (.int u)] [(.int u)])) t → Steps p.tables e below (s₁.setTop (entryFrame m #[(.int u)] 1)) t := fun t k => pre0 t (by
    show Steps p.tables e below (s₁.setTop (mkF m 0 #[.val (.int u)] [])) _
    refine XS.iloadN X0.here hx rfl (hb hby own_d1_0) rfl ?_
    show Steps p.tables e below (s₁.setTop (mkF m 1 #[.val (.int u)] [(.int u)])) _
    exact k)
  by_cases hc2 : u = (0 : Int32)
  · skip
    obtain ⟨T3, X3, e3, st3⟩ := getS2 X0 hx hZ hown (host := "") (Or.inl (hw _ (List.mem_of_getElem? (i := 4) rfl))) Via.refl e0 S_SIN (g := (mkF m 4 #[.val (.int u)] [])) rfl (hb hby own_d1_4)
    obtain ⟨fs, hr, hrun, hended, hW, hsame⟩ := X3.leave (v := some (.ref wSIN)) (fun h => by rw [Bd.returns] at h; cases h)
    refine ⟨_, _, pre1 _ ?_, hrun, hended, _, _, rfl, ?_, ⟨_, rfl⟩, hW, hsame.mono (by decide) (by decide)⟩
    · refine XS.ifNo X0.here hx rfl (hb hby own_d1_1) rfl ((if0 _ _).trans (teq hc2).2) ?_
      show Steps p.tables e below (s₁.setTop (mkF m 4 #[.val (.int u)] [])) _
      refine st3 _ ?_
      show Steps p.tables e below (T3.setTop (mkF m 7 #[.val (.int u)] [(.ref wSIN)])) _
      exact retOut X3 hx (t := (.object "com/example/longhand/longhand/trig/Ratio")) Bd.returns rfl (Or.inr (Or.inr (Or.inr (Or.inr ⟨rfl, rfl, rfl⟩)))) (hb hby own_d1_7) hr
    · show own_Q_own_pick Z u wSIN wCOS wTAN wCOT wSINH wCOSH wTANH wCOTH h0 n0 _ T3.heap _
      rw [e3]
      exact ⟨by simp [hc2], N0, rfl⟩
  · skip
    have pre4 : ∀ t, Steps p.tables e below (s₁.setTop (mkF m 10 #[.val (.int u)] [(.int (1 : Int32)), (.int u)])) t → Steps p.tables e below (s₁.setTop (entryFrame m #[(.int u)] 1)) t := fun t k => pre1 t (by
      refine XS.ifYes X0.here hx rfl (pc0 := 1) (pc' := 8) rfl (hb hby own_d1_1) rfl ((if0 _ _).trans (feq hc2).2) (by decide) (by decide) ?_
      show Steps p.tables e below (s₁.setTop (mkF m 8 #[.val (.int u)] [])) _
      refine XS.iloadN X0.here hx rfl (hb hby own_d1_8) rfl ?_
      show Steps p.tables e below (s₁.setTop (mkF m 9 #[.val (.int u)] [(.int u)])) _
      refine XS.iconst X0.here hx rfl (hb hby own_d1_9) ?_
      show Steps p.tables e below (s₁.setTop (mkF m 10 #[.val (.int u)] [(.int (1 : Int32)), (.int u)])) _
      exact k)
    by_cases hc5 : u = (1 : Int32)
    · skip
      obtain ⟨T6, X6, e6, st6⟩ := getS2 X0 hx hZ hown (host := "") (Or.inl (hw _ (List.mem_of_getElem? (i := 22) rfl))) Via.refl e0 S_COS (g := (mkF m 13 #[.val (.int u)] [])) rfl (hb hby own_d1_13)
      obtain ⟨fs, hr, hrun, hended, hW, hsame⟩ := X6.leave (v := some (.ref wCOS)) (fun h => by rw [Bd.returns] at h; cases h)
      refine ⟨_, _, pre4 _ ?_, hrun, hended, _, _, rfl, ?_, ⟨_, rfl⟩, hW, hsame.mono (by decide) (by decide)⟩
      · refine XS.icmpNo X0.here hx rfl (hb hby own_d1_10) rfl (teq hc5).2 ?_
        show Steps p.tables e below (s₁.setTop (mkF m 13 #[.val (.int u)] [])) _
        refine st6 _ ?_
        show Steps p.tables e below (T6.setTop (mkF m 16 #[.val (.int u)] [(.ref wCOS)])) _
        exact retOut X6 hx (t := (.object "com/example/longhand/longhand/trig/Ratio")) Bd.returns rfl (Or.inr (Or.inr (Or.inr (Or.inr ⟨rfl, rfl, rfl⟩)))) (hb hby own_d1_16) hr
      · show own_Q_own_pick Z u wSIN wCOS wTAN wCOT wSINH wCOSH wTANH wCOTH h0 n0 _ T6.heap _
        rw [e6]
        exact ⟨by simp [hc2, hc5], N0, rfl⟩
    · skip
      have pre7 : ∀ t, Steps p.tables e below (s₁.setTop (mkF m 19 #[.val (.int u)] [(.int (2 : Int32)), (.int u)])) t → Steps p.tables e below (s₁.setTop (entryFrame m #[(.int u)] 1)) t := fun t k => pre4 t (by
        refine XS.icmpYes X0.here hx rfl (pc0 := 10) (pc' := 17) rfl (hb hby own_d1_10) rfl (feq hc5).2 (by decide) (by decide) ?_
        show Steps p.tables e below (s₁.setTop (mkF m 17 #[.val (.int u)] [])) _
        refine XS.iloadN X0.here hx rfl (hb hby own_d1_17) rfl ?_
        show Steps p.tables e below (s₁.setTop (mkF m 18 #[.val (.int u)] [(.int u)])) _
        refine XS.iconst X0.here hx rfl (hb hby own_d1_18) ?_
        show Steps p.tables e below (s₁.setTop (mkF m 19 #[.val (.int u)] [(.int (2 : Int32)), (.int u)])) _
        exact k)
      by_cases hc8 : u = (2 : Int32)
      · skip
        obtain ⟨T9, X9, e9, st9⟩ := getS2 X0 hx hZ hown (host := "") (Or.inl (hw _ (List.mem_of_getElem? (i := 20) rfl))) Via.refl e0 S_TAN (g := (mkF m 22 #[.val (.int u)] [])) rfl (hb hby own_d1_22)
        obtain ⟨fs, hr, hrun, hended, hW, hsame⟩ := X9.leave (v := some (.ref wTAN)) (fun h => by rw [Bd.returns] at h; cases h)
        refine ⟨_, _, pre7 _ ?_, hrun, hended, _, _, rfl, ?_, ⟨_, rfl⟩, hW, hsame.mono (by decide) (by decide)⟩
        · refine XS.icmpNo X0.here hx rfl (hb hby own_d1_19) rfl (teq hc8).2 ?_
          show Steps p.tables e below (s₁.setTop (mkF m 22 #[.val (.int u)] [])) _
          refine st9 _ ?_
          show Steps p.tables e below (T9.setTop (mkF m 25 #[.val (.int u)] [(.ref wTAN)])) _
          exact retOut X9 hx (t := (.object "com/example/longhand/longhand/trig/Ratio")) Bd.returns rfl (Or.inr (Or.inr (Or.inr (Or.inr ⟨rfl, rfl, rfl⟩)))) (hb hby own_d1_25) hr
        · show own_Q_own_pick Z u wSIN wCOS wTAN wCOT wSINH wCOSH wTANH wCOTH h0 n0 _ T9.heap _
          rw [e9]
          exact ⟨by simp [hc2, hc5, hc8], N0, rfl⟩
      · skip
        have pre10 : ∀ t, Steps p.tables e below (s₁.setTop (mkF m 28 #[.val (.int u)] [(.int (3 : Int32)), (.int u)])) t → Steps p.tables e below (s₁.setTop (entryFrame m #[(.int u)] 1)) t := fun t k => pre7 t (by
          refine XS.icmpYes X0.here hx rfl (pc0 := 19) (pc' := 26) rfl (hb hby own_d1_19) rfl (feq hc8).2 (by decide) (by decide) ?_
          show Steps p.tables e below (s₁.setTop (mkF m 26 #[.val (.int u)] [])) _
          refine XS.iloadN X0.here hx rfl (hb hby own_d1_26) rfl ?_
          show Steps p.tables e below (s₁.setTop (mkF m 27 #[.val (.int u)] [(.int u)])) _
          refine XS.iconst X0.here hx rfl (hb hby own_d1_27) ?_
          show Steps p.tables e below (s₁.setTop (mkF m 28 #[.val (.int u)] [(.int (3 : Int32)), (.int u)])) _
          exact k)
        by_cases hc11 : u = (3 : Int32)
        · skip
          obtain ⟨T12, X12, e12, st12⟩ := getS2 X0 hx hZ hown (host := "") (Or.inl (hw _ (List.mem_of_getElem? (i := 14) rfl))) Via.refl e0 S_COT (g := (mkF m 31 #[.val (.int u)] [])) rfl (hb hby own_d1_31)
          obtain ⟨fs, hr, hrun, hended, hW, hsame⟩ := X12.leave (v := some (.ref wCOT)) (fun h => by rw [Bd.returns] at h; cases h)
          refine ⟨_, _, pre10 _ ?_, hrun, hended, _, _, rfl, ?_, ⟨_, rfl⟩, hW, hsame.mono (by decide) (by decide)⟩
          · refine XS.icmpNo X0.here hx rfl (hb hby own_d1_28) rfl (teq hc11).2 ?_
            show Steps p.tables e below (s₁.setTop (mkF m 31 #[.val (.int u)] [])) _
            refine st12 _ ?_
            show Steps p.tables e below (T12.setTop (mkF m 34 #[.val (.int u)] [(.ref wCOT)])) _
            exact retOut X12 hx (t := (.object "com/example/longhand/longhand/trig/Ratio")) Bd.returns rfl (Or.inr (Or.inr (Or.inr (Or.inr ⟨rfl, rfl, rfl⟩)))) (hb hby own_d1_34) hr
          · show own_Q_own_pick Z u wSIN wCOS wTAN wCOT wSINH wCOSH wTANH wCOTH h0 n0 _ T12.heap _
            rw [e12]
            exact ⟨by simp [hc2, hc5, hc8, hc11], N0, rfl⟩
        · skip
          have pre13 : ∀ t, Steps p.tables e below (s₁.setTop (mkF m 37 #[.val (.int u)] [(.int (4 : Int32)), (.int u)])) t → Steps p.tables e below (s₁.setTop (entryFrame m #[(.int u)] 1)) t := fun t k => pre10 t (by
            refine XS.icmpYes X0.here hx rfl (pc0 := 28) (pc' := 35) rfl (hb hby own_d1_28) rfl (feq hc11).2 (by decide) (by decide) ?_
            show Steps p.tables e below (s₁.setTop (mkF m 35 #[.val (.int u)] [])) _
            refine XS.iloadN X0.here hx rfl (hb hby own_d1_35) rfl ?_
            show Steps p.tables e below (s₁.setTop (mkF m 36 #[.val (.int u)] [(.int u)])) _
            refine XS.iconst X0.here hx rfl (hb hby own_d1_36) ?_
            show Steps p.tables e below (s₁.setTop (mkF m 37 #[.val (.int u)] [(.int (4 : Int32)), (.int u)])) _
            exact k)
          by_cases hc14 : u = (4 : Int32)
          · skip
            obtain ⟨T15, X15, e15, st15⟩ := getS2 X0 hx hZ hown (host := "") (Or.inl (hw _ (List.mem_of_getElem? (i := 24) rfl))) Via.refl e0 S_SINH (g := (mkF m 40 #[.val (.int u)] [])) rfl (hb hby own_d1_40)
            obtain ⟨fs, hr, hrun, hended, hW, hsame⟩ := X15.leave (v := some (.ref wSINH)) (fun h => by rw [Bd.returns] at h; cases h)
            refine ⟨_, _, pre13 _ ?_, hrun, hended, _, _, rfl, ?_, ⟨_, rfl⟩, hW, hsame.mono (by decide) (by decide)⟩
            · refine XS.icmpNo X0.here hx rfl (hb hby own_d1_37) rfl (teq hc14).2 ?_
              show Steps p.tables e below (s₁.setTop (mkF m 40 #[.val (.int u)] [])) _
              refine st15 _ ?_
              show Steps p.tables e below (T15.setTop (mkF m 43 #[.val (.int u)] [(.ref wSINH)])) _
              exact retOut X15 hx (t := (.object "com/example/longhand/longhand/trig/Ratio")) Bd.returns rfl (Or.inr (Or.inr (Or.inr (Or.inr ⟨rfl, rfl, rfl⟩)))) (hb hby own_d1_43) hr
            · show own_Q_own_pick Z u wSIN wCOS wTAN wCOT wSINH wCOSH wTANH wCOTH h0 n0 _ T15.heap _
              rw [e15]
              exact ⟨by simp [hc2, hc5, hc8, hc11, hc14], N0, rfl⟩
          · skip
            have pre16 : ∀ t, Steps p.tables e below (s₁.setTop (mkF m 46 #[.val (.int u)] [(.int (5 : Int32)), (.int u)])) t → Steps p.tables e below (s₁.setTop (entryFrame m #[(.int u)] 1)) t := fun t k => pre13 t (by
              refine XS.icmpYes X0.here hx rfl (pc0 := 37) (pc' := 44) rfl (hb hby own_d1_37) rfl (feq hc14).2 (by decide) (by decide) ?_
              show Steps p.tables e below (s₁.setTop (mkF m 44 #[.val (.int u)] [])) _
              refine XS.iloadN X0.here hx rfl (hb hby own_d1_44) rfl ?_
              show Steps p.tables e below (s₁.setTop (mkF m 45 #[.val (.int u)] [(.int u)])) _
              refine XS.iconst X0.here hx rfl (hb hby own_d1_45) ?_
              show Steps p.tables e below (s₁.setTop (mkF m 46 #[.val (.int u)] [(.int (5 : Int32)), (.int u)])) _
              exact k)
            by_cases hc17 : u = (5 : Int32)
            · skip
              obtain ⟨T18, X18, e18, st18⟩ := getS2 X0 hx hZ hown (host := "") (Or.inl (hw _ (List.mem_of_getElem? (i := 26) rfl))) Via.refl e0 S_COSH (g := (mkF m 49 #[.val (.int u)] [])) rfl (hb hby own_d1_49)
              obtain ⟨fs, hr, hrun, hended, hW, hsame⟩ := X18.leave (v := some (.ref wCOSH)) (fun h => by rw [Bd.returns] at h; cases h)
              refine ⟨_, _, pre16 _ ?_, hrun, hended, _, _, rfl, ?_, ⟨_, rfl⟩, hW, hsame.mono (by decide) (by decide)⟩
              · refine XS.icmpNo X0.here hx rfl (hb hby own_d1_46) rfl (teq hc17).2 ?_
                show Steps p.tables e below (s₁.setTop (mkF m 49 #[.val (.int u)] [])) _
                refine st18 _ ?_
                show Steps p.tables e below (T18.setTop (mkF m 52 #[.val (.int u)] [(.ref wCOSH)])) _
                exact retOut X18 hx (t := (.object "com/example/longhand/longhand/trig/Ratio")) Bd.returns rfl (Or.inr (Or.inr (Or.inr (Or.inr ⟨rfl, rfl, rfl⟩)))) (hb hby own_d1_52) hr
              · show own_Q_own_pick Z u wSIN wCOS wTAN wCOT wSINH wCOSH wTANH wCOTH h0 n0 _ T18.heap _
                rw [e18]
                exact ⟨by simp [hc2, hc5, hc8, hc11, hc14, hc17], N0, rfl⟩
            · skip
              have pre19 : ∀ t, Steps p.tables e below (s₁.setTop (mkF m 56 #[.val (.int u)] [(.int (6 : Int32)), (.int u)])) t → Steps p.tables e below (s₁.setTop (entryFrame m #[(.int u)] 1)) t := fun t k => pre16 t (by
                refine XS.icmpYes X0.here hx rfl (pc0 := 46) (pc' := 53) rfl (hb hby own_d1_46) rfl (feq hc17).2 (by decide) (by decide) ?_
                show Steps p.tables e below (s₁.setTop (mkF m 53 #[.val (.int u)] [])) _
                refine XS.iloadN X0.here hx rfl (hb hby own_d1_53) rfl ?_
                show Steps p.tables e below (s₁.setTop (mkF m 54 #[.val (.int u)] [(.int u)])) _
                refine XS.bipush X0.here hx rfl (hb hby own_d1_54) ?_
                show Steps p.tables e below (s₁.setTop (mkF m 56 #[.val (.int u)] [(.int (6 : Int32)), (.int u)])) _
                exact k)
              by_cases hc20 : u = (6 : Int32)
              · skip
                obtain ⟨T21, X21, e21, st21⟩ := getS2 X0 hx hZ hown (host := "") (Or.inl (hw _ (List.mem_of_getElem? (i := 16) rfl))) Via.refl e0 S_TANH (g := (mkF m 59 #[.val (.int u)] [])) rfl (hb hby own_d1_59)
                obtain ⟨fs, hr, hrun, hended, hW, hsame⟩ := X21.leave (v := some (.ref wTANH)) (fun h => by rw [Bd.returns] at h; cases h)
                refine ⟨_, _, pre19 _ ?_, hrun, hended, _, _, rfl, ?_, ⟨_, rfl⟩, hW, hsame.mono (by decide) (by decide)⟩
                · refine XS.icmpNo X0.here hx rfl (hb hby own_d1_56) rfl (teq hc20).2 ?_
                  show Steps p.tables e below (s₁.setTop (mkF m 59 #[.val (.int u)] [])) _
                  refine st21 _ ?_
                  show Steps p.tables e below (T21.setTop (mkF m 62 #[.val (.int u)] [(.ref wTANH)])) _
                  exact retOut X21 hx (t := (.object "com/example/longhand/longhand/trig/Ratio")) Bd.returns rfl (Or.inr (Or.inr (Or.inr (Or.inr ⟨rfl, rfl, rfl⟩)))) (hb hby own_d1_62) hr
                · show own_Q_own_pick Z u wSIN wCOS wTAN wCOT wSINH wCOSH wTANH wCOTH h0 n0 _ T21.heap _
                  rw [e21]
                  exact ⟨by simp [hc2, hc5, hc8, hc11, hc14, hc17, hc20], N0, rfl⟩
              · skip
                obtain ⟨T22, X22, e22, st22⟩ := getS2 X0 hx hZ hown (host := "") (Or.inl (hw _ (List.mem_of_getElem? (i := 18) rfl))) Via.refl e0 S_COTH (g := (mkF m 63 #[.val (.int u)] [])) rfl (hb hby own_d1_63)
                obtain ⟨fs, hr, hrun, hended, hW, hsame⟩ := X22.leave (v := some (.ref wCOTH)) (fun h => by rw [Bd.returns] at h; cases h)
                refine ⟨_, _, pre19 _ ?_, hrun, hended, _, _, rfl, ?_, ⟨_, rfl⟩, hW, hsame.mono (by decide) (by decide)⟩
                · refine XS.icmpYes X0.here hx rfl (pc0 := 56) (pc' := 63) rfl (hb hby own_d1_56) rfl (feq hc20).2 (by decide) (by decide) ?_
                  show Steps p.tables e below (s₁.setTop (mkF m 63 #[.val (.int u)] [])) _
                  refine st22 _ ?_
                  show Steps p.tables e below (T22.setTop (mkF m 66 #[.val (.int u)] [(.ref wCOTH)])) _
                  exact retOut X22 hx (t := (.object "com/example/longhand/longhand/trig/Ratio")) Bd.returns rfl (Or.inr (Or.inr (Or.inr (Or.inr ⟨rfl, rfl, rfl⟩)))) (hb hby own_d1_66) hr
                · show own_Q_own_pick Z u wSIN wCOS wTAN wCOT wSINH wCOSH wTANH wCOTH h0 n0 _ T22.heap _
                  rw [e22]
                  exact ⟨by simp [hc2, hc5, hc8, hc11, hc14, hc17, hc20], N0, rfl⟩
theorem own_d2_0 : decode prog_24_method_4_code 0 = .ok (.aload_n 0, 1) := by decide +kernel
theorem own_d2_1 : decode prog_24_method_4_code 1 = .ok (.getfield 59, 3) := by decide +kernel
theorem own_d2_4 : decode prog_24_method_4_code 4 = .ok (.ifCond .eq 7, 3) := by decide +kernel
theorem own_d2_7 : decode prog_24_method_4_code 7 = .ok (.iconst 1, 1) := by decide +kernel
theorem own_d2_8 : decode prog_24_method_4_code 8 = .ok (.goto 4, 3) := by decide +kernel
theorem own_d2_11 : decode prog_24_method_4_code 11 = .ok (.iconst 0, 1) := by decide +kernel
theorem own_d2_12 : decode prog_24_method_4_code 12 = .ok (.ireturn, 1) := by decide +kernel
theorem own_pn1 : plainName "com/example/longhand/longhand/trig/Ratio" = true := by first | (simp [plainName, overriddenIn]; done) | decide +kernel
theorem own_ef2 (m : MethodId) (x0 : Addr) : entryFrame m #[(.ref x0)] 1 = mkF m 0 #[.val (.ref x0)] [] := by first | (simp [entryFrame, mkF, argsToLocals, Value.category]; done) | rfl
def own_Q_own_odd (Z : State) (a : Addr) (pw : Int32) (h0 : Heap) (n0 : Nat) (v : Option Value) (h : Heap) (L : List Loc) : Prop := v = some (.int (if pw = 0 then 0 else 1)) ∧ Fr n0 L ∧ h = h0
set_option maxRecDepth 65536 in
set_option maxHeartbeats 40000000 in
theorem own_odd (l : Launch) (Z : State) (a0 : Array Value) (hw : ∀ d ∈ tables_1, d.before a0 Z = true) (ws : List Jvm.Cond) (a : Addr) (pw : Int32) (h0 : Heap) (n0 : Nat) (Z0 : n0 ≤ h0.size) (F : Fld Z h0 a "com/example/longhand/longhand/trig/Ratio" "power" "I" (.int pw)) :
    MetFree l (⟨"com/example/longhand/longhand/trig/Ratio", "odd", "()Z"⟩ : MethodName) (head1 (Jvm.Cond.code (⟨"com/example/longhand/longhand/trig/Ratio", "odd", "()Z"⟩ : MethodName) prog_24_method_4_code 1 (some .boolean) :: ws) ({ frames := 0, cells := 0, slots := 0, locals := 0 } : Room)) (fun as_ U => as_ = #[(.ref a)] ∧ Z.Warmed39 U.vm ∧ U.heap = h0) (fun _ _ _ _ _ => True) (fun _ U o U' => ∃ v L, o = .returned v ∧ own_Q_own_odd Z a pw h0 n0 v U'.heap L ∧ FrameEnd U o U' L ({ frames := 0, cells := 0, slots := 0, locals := 0 } : Room).cells ({ frames := 0, cells := 0, slots := 0, locals := 0 } : Room).slots) := by
  refine MetFree.of_bodySF (plainFor_of_name own_pn1) hisR ?_
  intro p e s m args below meth c s₁ Bd hml0 hP hK
  obtain ⟨rfl, hZ, hh⟩ := hP
  have hx := Bd.exec
  have hby := Bd.bytes
  have hml : c.maxLocals = 1 := hml0
  have hown : s.vm.findClass "com/example/longhand/longhand/trig/Ratio" = some m.cls := findClass_of_methodNamed Bd.named
  have hnm := (name_of_methodNamed Bd.named Bd.method).1
  have X0 : Stand p l e ({ frames := 0, cells := 0, slots := 0, locals := 0 } : Room) s m #[(.ref a)] below meth c s₁ [] 0 0 := Stand.of_body Bd
  have e0 : s₁.heap = h0 := by rw [← hh, Bd.state]; rfl
  have N0 := Fr.nil n0
  have pre0 : ∀ t, Steps p.tables e below (s₁.setTop (mkF m 0 #[.val (.ref a)] [])) t → Steps p.tables e below (s₁.setTop (entryFrame m #[(.ref a)] 1)) t := fun t k => castTop (own_ef2 m a) k
  obtain ⟨T1, X1, e1, st1⟩ := getF X0 hx hZ hown (host := "") (Or.inl (hw _ (List.mem_of_getElem? (i := 12) rfl))) Via.refl e0 F (g := (mkF m 1 #[.val (.ref a)] [(.ref a)])) rfl rfl (hb hby own_d2_1)
  have pre2 : ∀ t, Steps p.tables e below (T1.setTop (mkF m 4 #[.val (.ref a)] [(.int pw)])) t → Steps p.tables e below (s₁.setTop (entryFrame m #[(.ref a)] 1)) t := fun t k => pre0 t (by
    show Steps p.tables e below (s₁.setTop (mkF m 0 #[.val (.ref a)] [])) _
    refine XS.aloadN X0.here hx rfl (hb hby own_d2_0) rfl rfl ?_
    show Steps p.tables e below (s₁.setTop (mkF m 1 #[.val (.ref a)] [(.ref a)])) _
    refine st1 _ ?_
    show Steps p.tables e below (T1.setTop (mkF m 4 #[.val (.ref a)] [(.int pw)])) _
    exact k)
  by_cases hc3 : pw = (0 : Int32)
  · skip
    obtain ⟨fs, hr, hrun, hended, hW, hsame⟩ := X1.leave (v := some (.int (0 : Int32))) (fun h => by rw [Bd.returns] at h; cases h)
    refine ⟨_, _, pre2 _ ?_, hrun, hended, _, _, rfl, ?_, ⟨_, rfl⟩, hW, hsame.mono (by decide) (by decide)⟩
    · refine XS.ifYes X1.here hx rfl (pc0 := 4) (pc' := 11) rfl (hb hby own_d2_4) rfl ((if0 _ _).trans (teq hc3).1) (by decide) (by decide) ?_
      show Steps p.tables e below (T1.setTop (mkF m 11 #[.val (.ref a)] [])) _
      refine XS.iconst X1.here hx rfl (hb hby own_d2_11) ?_
      show Steps p.tables e below (T1.setTop (mkF m 12 #[.val (.ref a)] [(.int (0 : Int32))])) _
      exact retN X1 hx (t := .boolean) Bd.returns (by simp) (hb hby own_d2_12) hr
    · show own_Q_own_odd Z a pw h0 n0 _ T1.heap _
      rw [e1]
      exact ⟨by simp [hc3], N0, rfl⟩
  · skip
    obtain ⟨fs, hr, hrun, hended, hW, hsame⟩ := X1.leave (v := some (.int (1 : Int32))) (fun h => by rw [Bd.returns] at h; cases h)
    refine ⟨_, _, pre2 _ ?_, hrun, hended, _, _, rfl, ?_, ⟨_, rfl⟩, hW, hsame.mono (by decide) (by decide)⟩
    · refine XS.ifNo X1.here hx rfl (hb hby own_d2_4) rfl ((if0 _ _).trans (feq hc3).1) ?_
      show Steps p.tables e below (T1.setTop (mkF m 7 #[.val (.ref a)] [])) _
      refine XS.iconst X1.here hx rfl (hb hby own_d2_7) ?_
      show Steps p.tables e below (T1.setTop (mkF m 8 #[.val (.ref a)] [(.int (1 : Int32))])) _
      refine XS.goto X1.here hx rfl (pc0 := 8) (pc' := 12) rfl (hb hby own_d2_8) (by decide) (by decide) ?_
      show Steps p.tables e below (T1.setTop (mkF m 12 #[.val (.ref a)] [(.int (1 : Int32))])) _
      exact retN X1 hx (t := .boolean) Bd.returns (by simp) (hb hby own_d2_12) hr
    · show own_Q_own_odd Z a pw h0 n0 _ T1.heap _
      rw [e1]
      exact ⟨by simp [hc3], N0, rfl⟩
theorem own_pd0 : parseMethodDescriptor "(I)Lcom/example/longhand/longhand/trig/Ratio;" = some ⟨[.int], some (.object "com/example/longhand/longhand/trig/Ratio")⟩ := by decide +kernel
theorem own_pd1 : parseMethodDescriptor "()Z" = some ⟨[], some .boolean⟩ := by decide +kernel
theorem own_ef0 (m : MethodId) (x0 : Int32) : entryFrame m #[(.int x0)] maxLocals = mkF m 0 #[.val (.int x0), .unset, .unset, .unset] [] := by first | (simp [entryFrame, mkF, argsToLocals, Value.category, maxLocals]; done) | rfl
def own_Q_own_law (Z : State) (u : Int32) (wSIN : Addr) (wCOS : Addr) (wTAN : Addr) (wCOT : Addr) (wSINH : Addr) (wCOSH : Addr) (wTANH : Addr) (wCOTH : Addr) (h0 : Heap) (n0 : Nat) (v : Option Value) (h : Heap) (L : List Loc) : Prop := v = some (.int 1) ∧ Fr n0 L
set_option maxRecDepth 65536 in
set_option maxHeartbeats 40000000 in
theorem own_law (l : Launch) (Z : State) (a0 : Array Value) (hw : ∀ d ∈ tables_1, d.before a0 Z = true) (ws : List Jvm.Cond) (u : Int32) (wSIN : Addr) (wCOS : Addr) (wTAN : Addr) (wCOT : Addr) (wSINH : Addr) (wCOSH : Addr) (wTANH : Addr) (wCOTH : Addr) (h0 : Heap) (n0 : Nat) (Z0 : n0 ≤ h0.size) (S_SIN : Sta Z h0 "com/example/longhand/longhand/trig/Ratio" "SIN" "Lcom/example/longhand/longhand/trig/Ratio;" (.ref wSIN)) (S_COS : Sta Z h0 "com/example/longhand/longhand/trig/Ratio" "COS" "Lcom/example/longhand/longhand/trig/Ratio;" (.ref wCOS)) (S_TAN : Sta Z h0 "com/example/longhand/longhand/trig/Ratio" "TAN" "Lcom/example/longhand/longhand/trig/Ratio;" (.ref wTAN)) (S_COT : Sta Z h0 "com/example/longhand/longhand/trig/Ratio" "COT" "Lcom/example/longhand/longhand/trig/Ratio;" (.ref wCOT)) (S_SINH : Sta Z h0 "com/example/longhand/longhand/trig/Ratio" "SINH" "Lcom/example/longhand/longhand/trig/Ratio;" (.ref wSINH)) (S_COSH : Sta Z h0 "com/example/longhand/longhand/trig/Ratio" "COSH" "Lcom/example/longhand/longhand/trig/Ratio;" (.ref wCOSH)) (S_TANH : Sta Z h0 "com/example/longhand/longhand/trig/Ratio" "TANH" "Lcom/example/longhand/longhand/trig/Ratio;" (.ref wTANH)) (S_COTH : Sta Z h0 "com/example/longhand/longhand/trig/Ratio" "COTH" "Lcom/example/longhand/longhand/trig/Ratio;" (.ref wCOTH)) (E_wSIN : Exa Z h0 wSIN "com/example/longhand/longhand/trig/Ratio") (E_wCOS : Exa Z h0 wCOS "com/example/longhand/longhand/trig/Ratio") (E_wTAN : Exa Z h0 wTAN "com/example/longhand/longhand/trig/Ratio") (E_wCOT : Exa Z h0 wCOT "com/example/longhand/longhand/trig/Ratio") (E_wSINH : Exa Z h0 wSINH "com/example/longhand/longhand/trig/Ratio") (E_wCOSH : Exa Z h0 wCOSH "com/example/longhand/longhand/trig/Ratio") (E_wTANH : Exa Z h0 wTANH "com/example/longhand/longhand/trig/Ratio") (E_wCOTH : Exa Z h0 wCOTH "com/example/longhand/longhand/trig/Ratio") (F_wSIN : Fld Z h0 wSIN "com/example/longhand/longhand/trig/Ratio" "power" "I" (.int (1))) (F_wCOS : Fld Z h0 wCOS "com/example/longhand/longhand/trig/Ratio" "power" "I" (.int (0))) (F_wTAN : Fld Z h0 wTAN "com/example/longhand/longhand/trig/Ratio" "power" "I" (.int (1))) (F_wCOT : Fld Z h0 wCOT "com/example/longhand/longhand/trig/Ratio" "power" "I" (.int (-1))) (F_wSINH : Fld Z h0 wSINH "com/example/longhand/longhand/trig/Ratio" "power" "I" (.int (1))) (F_wCOSH : Fld Z h0 wCOSH "com/example/longhand/longhand/trig/Ratio" "power" "I" (.int (0))) (F_wTANH : Fld Z h0 wTANH "com/example/longhand/longhand/trig/Ratio" "power" "I" (.int (1))) (F_wCOTH : Fld Z h0 wCOTH "com/example/longhand/longhand/trig/Ratio" "power" "I" (.int (-1))) :
    MetFree l x (head1 (Jvm.Cond.code x code maxLocals ret :: ws) room_1) (fun as_ U => as_ = #[(.int u)] ∧ Z.Warmed39 U.vm ∧ U.heap = h0) (fun _ _ _ _ _ => True) (fun _ U o U' => ∃ v L, o = .returned v ∧ own_Q_own_law Z u wSIN wCOS wTAN wCOT wSINH wCOSH wTANH wCOTH h0 n0 v U'.heap L ∧ FrameEnd U o U' L room_1.cells room_1.slots) := by
  refine MetFree.of_bodySF (plainFor_of_name own_pn0) hisR ?_
  intro p e s m args below meth c s₁ Bd hml0 hP hK
  obtain ⟨rfl, hZ, hh⟩ := hP
  have hx := Bd.exec
  have hby := Bd.bytes
  have hml : c.maxLocals = 4 := hml0
  have hown : s.vm.findClass "com/example/longhand/longhand/trig/RatioOddPinLaw" = some m.cls := findClass_of_methodNamed Bd.named
  have hnm := (name_of_methodNamed Bd.named Bd.method).1
  have X0 : Stand p l e room_1 s m #[(.int u)] below meth c s₁ [] 0 0 := Stand.of_body Bd
  have e0 : s₁.heap = h0 := by rw [← hh, Bd.state]; rfl
  have N0 := Fr.nil n0
  have pre0 : ∀ t, Steps p.tables e below (s₁.setTop (mkF m 0 #[.val (.int u), .unset, .unset, .unset] [])) t → Steps p.tables e below (s₁.setTop (entryFrame m #[(.int u)] maxLocals)) t := fun t k => castTop (own_ef0 m u) k
  have pre1 : ∀ t, Steps p.tables e below (s₁.setTop (mkF m 6 #[.val (.int u), .val (.int (u &&& (7 : Int32))), .unset, .unset] [(.int (u &&& (7 : Int32)))])) t → Steps p.tables e below (s₁.setTop (entryFrame m #[(.int u)] maxLocals)) t := fun t k => pre0 t (by
    show Steps p.tables e below (s₁.setTop (mkF m 0 #[.val (.int u), .unset, .unset, .unset] [])) _
    refine XS.iloadN X0.here hx rfl (hb hby at_0) rfl ?_
    show Steps p.tables e below (s₁.setTop (mkF m 1 #[.val (.int u), .unset, .unset, .unset] [(.int u)])) _
    refine XS.bipush X0.here hx rfl (hb hby at_1) ?_
    show Steps p.tables e below (s₁.setTop (mkF m 3 #[.val (.int u), .unset, .unset, .unset] [(.int (7 : Int32)), (.int u)])) _
    refine XS.iand X0.here hx rfl (hb hby at_3) rfl ?_
    show Steps p.tables e below (s₁.setTop (mkF m 4 #[.val (.int u), .unset, .unset, .unset] [(.int (u &&& (7 : Int32)))])) _
    refine XS.istoreN X0.here hx rfl (hb hby at_4) rfl (l' := #[.val (.int u), .val (.int (u &&& (7 : Int32))), .unset, .unset]) rfl ?_
    show Steps p.tables e below (s₁.setTop (mkF m 5 #[.val (.int u), .val (.int (u &&& (7 : Int32))), .unset, .unset] [])) _
    refine XS.iloadN X0.here hx rfl (hb hby at_5) rfl ?_
    exact k)
  by_cases hc2 : (u &&& (7 : Int32)) = (0 : Int32)
  · skip
    obtain ⟨_, _, ⟨T3, L3, k3, n3⟩, -, X3, ⟨Lc3, hQ3, l3, y3, z3⟩, st3⟩ := Jvm.LawKit.callS X0 hx (y := (⟨"com/example/longhand/longhand/trig/RatioOddPinLaw", "pick", "(I)Lcom/example/longhand/longhand/trig/Ratio;"⟩ : MethodName)) hown (mvT hZ (hw _ (List.mem_of_getElem? (i := 0) rfl))) (mvT hZ (hw _ (List.mem_of_getElem? (i := 1) rfl))) (mvT hZ (hw _ (List.mem_of_getElem? (i := 2) rfl))) (mvT hZ (hw _ (List.mem_of_getElem? (i := 3) rfl))) (by decide) (backOf (W := 0) (own_pick l Z a0 hw [] (u &&& (7 : Int32)) wSIN wCOS wTAN wCOT wSINH wCOSH wTANH wCOTH h0 n0 Z0 S_SIN S_COS S_TAN S_COT S_SINH S_COSH S_TANH S_COTH) hZ (hw _ (List.mem_of_getElem? (i := 3) rfl)) (hw _ (List.mem_of_getElem? (i := 2) rfl)) (by decide) (by decide)) (g := (mkF m 6 #[.val (.int u), .val (.int (u &&& (7 : Int32))), .unset, .unset] [(.int (u &&& (7 : Int32)))])) rfl (by rw [hml]; rfl) (argsL := [(.int (u &&& (7 : Int32)))]) (rest := []) (lenOf own_pd0 rfl) rfl (by show 2 * 0 + _ ≤ _; exact Nat.le_of_eq rfl) (hb hby at_6) (fun _ _ => ⟨rfl, e0, (by decide : 0 + 0 ≤ _), (by decide : 0 + 0 ≤ _)⟩)
    dsimp only [Pt.U, Pt.locs, Pt.cells, Pt.slots] at X3 l3 y3 z3 st3 hQ3
    subst l3 y3 z3
    obtain ⟨hv3, N3q, e3⟩ := hQ3
    simp [hc2] at hv3
    subst hv3
    have N3 := Fr.app N0 N3q
    obtain ⟨cq4, kq4, q4a, q4b, q4c⟩ := isOf hZ e3 E_wSIN
    obtain ⟨_, _, ⟨T4, L4, k4, n4⟩, -, X4, ⟨Lc4, hQ4, l4, y4, z4⟩, st4⟩ := X3.virtualBack hx (y := (⟨"com/example/longhand/longhand/trig/Ratio", "odd", "()Z"⟩ : MethodName)) (z := (⟨"com/example/longhand/longhand/trig/Ratio", "odd", "()Z"⟩ : MethodName)) hown (mvT hZ (hw _ (List.mem_of_getElem? (i := 7) rfl))) (mvT hZ (hw _ (List.mem_of_getElem? (i := 8) rfl))) (notFace_of_selects (args := #[]) (mvT hZ (hw _ (List.mem_of_getElem? (i := 10) rfl)))) (mvT hZ (hw _ (List.mem_of_getElem? (i := 10) rfl))) (mvT hZ (hw _ (List.mem_of_getElem? (i := 9) rfl))) (by decide) (backOf (W := 0) (own_odd l Z a0 hw [] wSIN (1) h0 n0 Z0 F_wSIN) hZ (hw _ (List.mem_of_getElem? (i := 11) rfl)) (hw _ (List.mem_of_getElem? (i := 5) rfl)) (by decide) (by decide)) q4a q4c (g := (mkF m 27 #[.val (.int u), .val (.int (u &&& (7 : Int32))), .val (.ref wSIN), .val (.int (1 : Int32))] [(.ref wSIN)])) rfl (by rw [hml]; rfl) (Steps.refl _) (argsL := []) (rest := []) (lenOf own_pd1 rfl) rfl (by show 2 * 0 + _ ≤ _; exact Nat.le_of_eq rfl) (hb hby at_27) (fun _ _ => ⟨rfl, e3, (by decide : 0 + 0 ≤ _), (by decide : 0 + 0 ≤ _)⟩)
    dsimp only [Pt.U, Pt.locs, Pt.cells, Pt.slots] at X4 l4 y4 z4 st4 hQ4
    subst l4 y4 z4
    obtain ⟨hv4, N4q, e4⟩ := hQ4
    simp at hv4
    subst hv4
    have N4 := Fr.app N3 N4q
    obtain ⟨fs, hr, hrun, hended, hW, hsame⟩ := X4.leave (v := some (.int (1 : Int32))) (fun h => by rw [Bd.returns] at h; cases h)
    refine ⟨_, _, pre1 _ ?_, hrun, hended, _, _, rfl, ?_, ⟨_, rfl⟩, hW, hsame.mono (by decide) (by decide)⟩
    · show Steps p.tables e below (s₁.setTop (mkF m 6 #[.val (.int u), .val (.int (u &&& (7 : Int32))), .unset, .unset] [(.int (u &&& (7 : Int32)))])) _
      refine st3 _ ?_
      show Steps p.tables e below (T3.setTop (mkF m 9 #[.val (.int u), .val (.int (u &&& (7 : Int32))), .unset, .unset] [(.ref wSIN)])) _
      refine XS.astoreN X3.here hx rfl (hb hby at_9) rfl rfl (l' := #[.val (.int u), .val (.int (u &&& (7 : Int32))), .val (.ref wSIN), .unset]) rfl ?_
      show Steps p.tables e below (T3.setTop (mkF m 10 #[.val (.int u), .val (.int (u &&& (7 : Int32))), .val (.ref wSIN), .unset] [])) _
      refine XS.iloadN X3.here hx rfl (hb hby at_10) rfl ?_
      show Steps p.tables e below (T3.setTop (mkF m 11 #[.val (.int u), .val (.int (u &&& (7 : Int32))), .val (.ref wSIN), .unset] [(.int (u &&& (7 : Int32)))])) _
      refine XS.iconst X3.here hx rfl (hb hby at_11) ?_
      show Steps p.tables e below (T3.setTop (mkF m 12 #[.val (.int u), .val (.int (u &&& (7 : Int32))), .val (.ref wSIN), .unset] [(.int (1 : Int32)), (.int (u &&& (7 : Int32)))])) _
      refine XS.icmpNo X3.here hx rfl (hb hby at_12) rfl (feq (by rw [hc2]; decide : ¬ ((u &&& (7 : Int32)) = (1 : Int32)))).1 ?_
      show Steps p.tables e below (T3.setTop (mkF m 15 #[.val (.int u), .val (.int (u &&& (7 : Int32))), .val (.ref wSIN), .unset] [])) _
      refine XS.iloadN X3.here hx rfl (hb hby at_15) rfl ?_
      show Steps p.tables e below (T3.setTop (mkF m 16 #[.val (.int u), .val (.int (u &&& (7 : Int32))), .val (.ref wSIN), .unset] [(.int (u &&& (7 : Int32)))])) _
      refine XS.iconst X3.here hx rfl (hb hby at_16) ?_
      show Steps p.tables e below (T3.setTop (mkF m 17 #[.val (.int u), .val (.int (u &&& (7 : Int32))), .val (.ref wSIN), .unset] [(.int (5 : Int32)), (.int (u &&& (7 : Int32)))])) _
      refine XS.icmpNo X3.here hx rfl (hb hby at_17) rfl (feq (by rw [hc2]; decide : ¬ ((u &&& (7 : Int32)) = (5 : Int32)))).1 ?_
      show Steps p.tables e below (T3.setTop (mkF m 20 #[.val (.int u), .val (.int (u &&& (7 : Int32))), .val (.ref wSIN), .unset] [])) _
      refine XS.iconst X3.here hx rfl (hb hby at_20) ?_
      show Steps p.tables e below (T3.setTop (mkF m 21 #[.val (.int u), .val (.int (u &&& (7 : Int32))), .val (.ref wSIN), .unset] [(.int (1 : Int32))])) _
      refine XS.goto X3.here hx rfl (pc0 := 21) (pc' := 25) rfl (hb hby at_21) (by decide) (by decide) ?_
      show Steps p.tables e below (T3.setTop (mkF m 25 #[.val (.int u), .val (.int (u &&& (7 : Int32))), .val (.ref wSIN), .unset] [(.int (1 : Int32))])) _
      refine XS.istoreN X3.here hx rfl (hb hby at_25) rfl (l' := #[.val (.int u), .val (.int (u &&& (7 : Int32))), .val (.ref wSIN), .val (.int (1 : Int32))]) rfl ?_
      show Steps p.tables e below (T3.setTop (mkF m 26 #[.val (.int u), .val (.int (u &&& (7 : Int32))), .val (.ref wSIN), .val (.int (1 : Int32))] [])) _
      refine XS.aloadN X3.here hx rfl (hb hby at_26) rfl rfl ?_
      show Steps p.tables e below (T3.setTop (mkF m 27 #[.val (.int u), .val (.int (u &&& (7 : Int32))), .val (.ref wSIN), .val (.int (1 : Int32))] [(.ref wSIN)])) _
      refine st4.trans ?_
      show Steps p.tables e below (T4.setTop (mkF m 30 #[.val (.int u), .val (.int (u &&& (7 : Int32))), .val (.ref wSIN), .val (.int (1 : Int32))] [(.int (1 : Int32))])) _
      refine XS.iloadN X4.here hx rfl (hb hby at_30) rfl ?_
      show Steps p.tables e below (T4.setTop (mkF m 31 #[.val (.int u), .val (.int (u &&& (7 : Int32))), .val (.ref wSIN), .val (.int (1 : Int32))] [(.int (1 : Int32)), (.int (1 : Int32))])) _
      refine XS.icmpNo X4.here hx rfl (hb hby at_31) rfl (teq (by decide : (1 : Int32) = (1 : Int32))).2 ?_
      show Steps p.tables e below (T4.setTop (mkF m 34 #[.val (.int u), .val (.int (u &&& (7 : Int32))), .val (.ref wSIN), .val (.int (1 : Int32))] [])) _
      refine XS.iconst X4.here hx rfl (hb hby at_34) ?_
      show Steps p.tables e below (T4.setTop (mkF m 35 #[.val (.int u), .val (.int (u &&& (7 : Int32))), .val (.ref wSIN), .val (.int (1 : Int32))] [(.int (1 : Int32))])) _
      refine XS.goto X4.here hx rfl (pc0 := 35) (pc' := 39) rfl (hb hby at_35) (by decide) (by decide) ?_
      show Steps p.tables e below (T4.setTop (mkF m 39 #[.val (.int u), .val (.int (u &&& (7 : Int32))), .val (.ref wSIN), .val (.int (1 : Int32))] [(.int (1 : Int32))])) _
      exact retN X4 hx (t := .boolean) Bd.returns (by simp) (hb hby at_39) hr
    · show own_Q_own_law Z u wSIN wCOS wTAN wCOT wSINH wCOSH wTANH wCOTH h0 n0 _ T4.heap _
      rw [e4]
      exact ⟨rfl, N4⟩
  · skip
    by_cases hc5 : (u &&& (7 : Int32)) = (1 : Int32)
    · skip
      obtain ⟨_, _, ⟨T6, L6, k6, n6⟩, -, X6, ⟨Lc6, hQ6, l6, y6, z6⟩, st6⟩ := Jvm.LawKit.callS X0 hx (y := (⟨"com/example/longhand/longhand/trig/RatioOddPinLaw", "pick", "(I)Lcom/example/longhand/longhand/trig/Ratio;"⟩ : MethodName)) hown (mvT hZ (hw _ (List.mem_of_getElem? (i := 0) rfl))) (mvT hZ (hw _ (List.mem_of_getElem? (i := 1) rfl))) (mvT hZ (hw _ (List.mem_of_getElem? (i := 2) rfl))) (mvT hZ (hw _ (List.mem_of_getElem? (i := 3) rfl))) (by decide) (backOf (W := 0) (own_pick l Z a0 hw [] (u &&& (7 : Int32)) wSIN wCOS wTAN wCOT wSINH wCOSH wTANH wCOTH h0 n0 Z0 S_SIN S_COS S_TAN S_COT S_SINH S_COSH S_TANH S_COTH) hZ (hw _ (List.mem_of_getElem? (i := 3) rfl)) (hw _ (List.mem_of_getElem? (i := 2) rfl)) (by decide) (by decide)) (g := (mkF m 6 #[.val (.int u), .val (.int (u &&& (7 : Int32))), .unset, .unset] [(.int (u &&& (7 : Int32)))])) rfl (by rw [hml]; rfl) (argsL := [(.int (u &&& (7 : Int32)))]) (rest := []) (lenOf own_pd0 rfl) rfl (by show 2 * 0 + _ ≤ _; exact Nat.le_of_eq rfl) (hb hby at_6) (fun _ _ => ⟨rfl, e0, (by decide : 0 + 0 ≤ _), (by decide : 0 + 0 ≤ _)⟩)
      dsimp only [Pt.U, Pt.locs, Pt.cells, Pt.slots] at X6 l6 y6 z6 st6 hQ6
      subst l6 y6 z6
      obtain ⟨hv6, N6q, e6⟩ := hQ6
      simp [hc2, hc5] at hv6
      subst hv6
      have N6 := Fr.app N0 N6q
      obtain ⟨cq7, kq7, q7a, q7b, q7c⟩ := isOf hZ e6 E_wCOS
      obtain ⟨_, _, ⟨T7, L7, k7, n7⟩, -, X7, ⟨Lc7, hQ7, l7, y7, z7⟩, st7⟩ := X6.virtualBack hx (y := (⟨"com/example/longhand/longhand/trig/Ratio", "odd", "()Z"⟩ : MethodName)) (z := (⟨"com/example/longhand/longhand/trig/Ratio", "odd", "()Z"⟩ : MethodName)) hown (mvT hZ (hw _ (List.mem_of_getElem? (i := 7) rfl))) (mvT hZ (hw _ (List.mem_of_getElem? (i := 8) rfl))) (notFace_of_selects (args := #[]) (mvT hZ (hw _ (List.mem_of_getElem? (i := 10) rfl)))) (mvT hZ (hw _ (List.mem_of_getElem? (i := 10) rfl))) (mvT hZ (hw _ (List.mem_of_getElem? (i := 9) rfl))) (by decide) (backOf (W := 0) (own_odd l Z a0 hw [] wCOS (0) h0 n0 Z0 F_wCOS) hZ (hw _ (List.mem_of_getElem? (i := 11) rfl)) (hw _ (List.mem_of_getElem? (i := 5) rfl)) (by decide) (by decide)) q7a q7c (g := (mkF m 27 #[.val (.int u), .val (.int (u &&& (7 : Int32))), .val (.ref wCOS), .val (.int (0 : Int32))] [(.ref wCOS)])) rfl (by rw [hml]; rfl) (Steps.refl _) (argsL := []) (rest := []) (lenOf own_pd1 rfl) rfl (by show 2 * 0 + _ ≤ _; exact Nat.le_of_eq rfl) (hb hby at_27) (fun _ _ => ⟨rfl, e6, (by decide : 0 + 0 ≤ _), (by decide : 0 + 0 ≤ _)⟩)
      dsimp only [Pt.U, Pt.locs, Pt.cells, Pt.slots] at X7 l7 y7 z7 st7 hQ7
      subst l7 y7 z7
      obtain ⟨hv7, N7q, e7⟩ := hQ7
      simp at hv7
      subst hv7
      have N7 := Fr.app N6 N7q
      obtain ⟨fs, hr, hrun, hended, hW, hsame⟩ := X7.leave (v := some (.int (1 : Int32))) (fun h => by rw [Bd.returns] at h; cases h)
      refine ⟨_, _, pre1 _ ?_, hrun, hended, _, _, rfl, ?_, ⟨_, rfl⟩, hW, hsame.mono (by decide) (by decide)⟩
      · show Steps p.tables e below (s₁.setTop (mkF m 6 #[.val (.int u), .val (.int (u &&& (7 : Int32))), .unset, .unset] [(.int (u &&& (7 : Int32)))])) _
        refine st6 _ ?_
        show Steps p.tables e below (T6.setTop (mkF m 9 #[.val (.int u), .val (.int (u &&& (7 : Int32))), .unset, .unset] [(.ref wCOS)])) _
        refine XS.astoreN X6.here hx rfl (hb hby at_9) rfl rfl (l' := #[.val (.int u), .val (.int (u &&& (7 : Int32))), .val (.ref wCOS), .unset]) rfl ?_
        show Steps p.tables e below (T6.setTop (mkF m 10 #[.val (.int u), .val (.int (u &&& (7 : Int32))), .val (.ref wCOS), .unset] [])) _
        refine XS.iloadN X6.here hx rfl (hb hby at_10) rfl ?_
        show Steps p.tables e below (T6.setTop (mkF m 11 #[.val (.int u), .val (.int (u &&& (7 : Int32))), .val (.ref wCOS), .unset] [(.int (u &&& (7 : Int32)))])) _
        refine XS.iconst X6.here hx rfl (hb hby at_11) ?_
        show Steps p.tables e below (T6.setTop (mkF m 12 #[.val (.int u), .val (.int (u &&& (7 : Int32))), .val (.ref wCOS), .unset] [(.int (1 : Int32)), (.int (u &&& (7 : Int32)))])) _
        refine XS.icmpYes X6.here hx rfl (pc0 := 12) (pc' := 24) rfl (hb hby at_12) rfl (teq hc5).1 (by decide) (by decide) ?_
        show Steps p.tables e below (T6.setTop (mkF m 24 #[.val (.int u), .val (.int (u &&& (7 : Int32))), .val (.ref wCOS), .unset] [])) _
        refine XS.iconst X6.here hx rfl (hb hby at_24) ?_
        show Steps p.tables e below (T6.setTop (mkF m 25 #[.val (.int u), .val (.int (u &&& (7 : Int32))), .val (.ref wCOS), .unset] [(.int (0 : Int32))])) _
        refine XS.istoreN X6.here hx rfl (hb hby at_25) rfl (l' := #[.val (.int u), .val (.int (u &&& (7 : Int32))), .val (.ref wCOS), .val (.int (0 : Int32))]) rfl ?_
        show Steps p.tables e below (T6.setTop (mkF m 26 #[.val (.int u), .val (.int (u &&& (7 : Int32))), .val (.ref wCOS), .val (.int (0 : Int32))] [])) _
        refine XS.aloadN X6.here hx rfl (hb hby at_26) rfl rfl ?_
        show Steps p.tables e below (T6.setTop (mkF m 27 #[.val (.int u), .val (.int (u &&& (7 : Int32))), .val (.ref wCOS), .val (.int (0 : Int32))] [(.ref wCOS)])) _
        refine st7.trans ?_
        show Steps p.tables e below (T7.setTop (mkF m 30 #[.val (.int u), .val (.int (u &&& (7 : Int32))), .val (.ref wCOS), .val (.int (0 : Int32))] [(.int (0 : Int32))])) _
        refine XS.iloadN X7.here hx rfl (hb hby at_30) rfl ?_
        show Steps p.tables e below (T7.setTop (mkF m 31 #[.val (.int u), .val (.int (u &&& (7 : Int32))), .val (.ref wCOS), .val (.int (0 : Int32))] [(.int (0 : Int32)), (.int (0 : Int32))])) _
        refine XS.icmpNo X7.here hx rfl (hb hby at_31) rfl (teq (by decide : (0 : Int32) = (0 : Int32))).2 ?_
        show Steps p.tables e below (T7.setTop (mkF m 34 #[.val (.int u), .val (.int (u &&& (7 : Int32))), .val (.ref wCOS), .val (.int (0 : Int32))] [])) _
        refine XS.iconst X7.here hx rfl (hb hby at_34) ?_
        show Steps p.tables e below (T7.setTop (mkF m 35 #[.val (.int u), .val (.int (u &&& (7 : Int32))), .val (.ref wCOS), .val (.int (0 : Int32))] [(.int (1 : Int32))])) _
        refine XS.goto X7.here hx rfl (pc0 := 35) (pc' := 39) rfl (hb hby at_35) (by decide) (by decide) ?_
        show Steps p.tables e below (T7.setTop (mkF m 39 #[.val (.int u), .val (.int (u &&& (7 : Int32))), .val (.ref wCOS), .val (.int (0 : Int32))] [(.int (1 : Int32))])) _
        exact retN X7 hx (t := .boolean) Bd.returns (by simp) (hb hby at_39) hr
      · show own_Q_own_law Z u wSIN wCOS wTAN wCOT wSINH wCOSH wTANH wCOTH h0 n0 _ T7.heap _
        rw [e7]
        exact ⟨rfl, N7⟩
    · skip
      by_cases hc8 : (u &&& (7 : Int32)) = (2 : Int32)
      · skip
        obtain ⟨_, _, ⟨T9, L9, k9, n9⟩, -, X9, ⟨Lc9, hQ9, l9, y9, z9⟩, st9⟩ := Jvm.LawKit.callS X0 hx (y := (⟨"com/example/longhand/longhand/trig/RatioOddPinLaw", "pick", "(I)Lcom/example/longhand/longhand/trig/Ratio;"⟩ : MethodName)) hown (mvT hZ (hw _ (List.mem_of_getElem? (i := 0) rfl))) (mvT hZ (hw _ (List.mem_of_getElem? (i := 1) rfl))) (mvT hZ (hw _ (List.mem_of_getElem? (i := 2) rfl))) (mvT hZ (hw _ (List.mem_of_getElem? (i := 3) rfl))) (by decide) (backOf (W := 0) (own_pick l Z a0 hw [] (u &&& (7 : Int32)) wSIN wCOS wTAN wCOT wSINH wCOSH wTANH wCOTH h0 n0 Z0 S_SIN S_COS S_TAN S_COT S_SINH S_COSH S_TANH S_COTH) hZ (hw _ (List.mem_of_getElem? (i := 3) rfl)) (hw _ (List.mem_of_getElem? (i := 2) rfl)) (by decide) (by decide)) (g := (mkF m 6 #[.val (.int u), .val (.int (u &&& (7 : Int32))), .unset, .unset] [(.int (u &&& (7 : Int32)))])) rfl (by rw [hml]; rfl) (argsL := [(.int (u &&& (7 : Int32)))]) (rest := []) (lenOf own_pd0 rfl) rfl (by show 2 * 0 + _ ≤ _; exact Nat.le_of_eq rfl) (hb hby at_6) (fun _ _ => ⟨rfl, e0, (by decide : 0 + 0 ≤ _), (by decide : 0 + 0 ≤ _)⟩)
        dsimp only [Pt.U, Pt.locs, Pt.cells, Pt.slots] at X9 l9 y9 z9 st9 hQ9
        subst l9 y9 z9
        obtain ⟨hv9, N9q, e9⟩ := hQ9
        simp [hc2, hc5, hc8] at hv9
        subst hv9
        have N9 := Fr.app N0 N9q
        obtain ⟨cq10, kq10, q10a, q10b, q10c⟩ := isOf hZ e9 E_wTAN
        obtain ⟨_, _, ⟨T10, L10, k10, n10⟩, -, X10, ⟨Lc10, hQ10, l10, y10, z10⟩, st10⟩ := X9.virtualBack hx (y := (⟨"com/example/longhand/longhand/trig/Ratio", "odd", "()Z"⟩ : MethodName)) (z := (⟨"com/example/longhand/longhand/trig/Ratio", "odd", "()Z"⟩ : MethodName)) hown (mvT hZ (hw _ (List.mem_of_getElem? (i := 7) rfl))) (mvT hZ (hw _ (List.mem_of_getElem? (i := 8) rfl))) (notFace_of_selects (args := #[]) (mvT hZ (hw _ (List.mem_of_getElem? (i := 10) rfl)))) (mvT hZ (hw _ (List.mem_of_getElem? (i := 10) rfl))) (mvT hZ (hw _ (List.mem_of_getElem? (i := 9) rfl))) (by decide) (backOf (W := 0) (own_odd l Z a0 hw [] wTAN (1) h0 n0 Z0 F_wTAN) hZ (hw _ (List.mem_of_getElem? (i := 11) rfl)) (hw _ (List.mem_of_getElem? (i := 5) rfl)) (by decide) (by decide)) q10a q10c (g := (mkF m 27 #[.val (.int u), .val (.int (u &&& (7 : Int32))), .val (.ref wTAN), .val (.int (1 : Int32))] [(.ref wTAN)])) rfl (by rw [hml]; rfl) (Steps.refl _) (argsL := []) (rest := []) (lenOf own_pd1 rfl) rfl (by show 2 * 0 + _ ≤ _; exact Nat.le_of_eq rfl) (hb hby at_27) (fun _ _ => ⟨rfl, e9, (by decide : 0 + 0 ≤ _), (by decide : 0 + 0 ≤ _)⟩)
        dsimp only [Pt.U, Pt.locs, Pt.cells, Pt.slots] at X10 l10 y10 z10 st10 hQ10
        subst l10 y10 z10
        obtain ⟨hv10, N10q, e10⟩ := hQ10
        simp at hv10
        subst hv10
        have N10 := Fr.app N9 N10q
        obtain ⟨fs, hr, hrun, hended, hW, hsame⟩ := X10.leave (v := some (.int (1 : Int32))) (fun h => by rw [Bd.returns] at h; cases h)
        refine ⟨_, _, pre1 _ ?_, hrun, hended, _, _, rfl, ?_, ⟨_, rfl⟩, hW, hsame.mono (by decide) (by decide)⟩
        · show Steps p.tables e below (s₁.setTop (mkF m 6 #[.val (.int u), .val (.int (u &&& (7 : Int32))), .unset, .unset] [(.int (u &&& (7 : Int32)))])) _
          refine st9 _ ?_
          show Steps p.tables e below (T9.setTop (mkF m 9 #[.val (.int u), .val (.int (u &&& (7 : Int32))), .unset, .unset] [(.ref wTAN)])) _
          refine XS.astoreN X9.here hx rfl (hb hby at_9) rfl rfl (l' := #[.val (.int u), .val (.int (u &&& (7 : Int32))), .val (.ref wTAN), .unset]) rfl ?_
          show Steps p.tables e below (T9.setTop (mkF m 10 #[.val (.int u), .val (.int (u &&& (7 : Int32))), .val (.ref wTAN), .unset] [])) _
          refine XS.iloadN X9.here hx rfl (hb hby at_10) rfl ?_
          show Steps p.tables e below (T9.setTop (mkF m 11 #[.val (.int u), .val (.int (u &&& (7 : Int32))), .val (.ref wTAN), .unset] [(.int (u &&& (7 : Int32)))])) _
          refine XS.iconst X9.here hx rfl (hb hby at_11) ?_
          show Steps p.tables e below (T9.setTop (mkF m 12 #[.val (.int u), .val (.int (u &&& (7 : Int32))), .val (.ref wTAN), .unset] [(.int (1 : Int32)), (.int (u &&& (7 : Int32)))])) _
          refine XS.icmpNo X9.here hx rfl (hb hby at_12) rfl (feq hc5).1 ?_
          show Steps p.tables e below (T9.setTop (mkF m 15 #[.val (.int u), .val (.int (u &&& (7 : Int32))), .val (.ref wTAN), .unset] [])) _
          refine XS.iloadN X9.here hx rfl (hb hby at_15) rfl ?_
          show Steps p.tables e below (T9.setTop (mkF m 16 #[.val (.int u), .val (.int (u &&& (7 : Int32))), .val (.ref wTAN), .unset] [(.int (u &&& (7 : Int32)))])) _
          refine XS.iconst X9.here hx rfl (hb hby at_16) ?_
          show Steps p.tables e below (T9.setTop (mkF m 17 #[.val (.int u), .val (.int (u &&& (7 : Int32))), .val (.ref wTAN), .unset] [(.int (5 : Int32)), (.int (u &&& (7 : Int32)))])) _
          refine XS.icmpNo X9.here hx rfl (hb hby at_17) rfl (feq (by rw [hc8]; decide : ¬ ((u &&& (7 : Int32)) = (5 : Int32)))).1 ?_
          show Steps p.tables e below (T9.setTop (mkF m 20 #[.val (.int u), .val (.int (u &&& (7 : Int32))), .val (.ref wTAN), .unset] [])) _
          refine XS.iconst X9.here hx rfl (hb hby at_20) ?_
          show Steps p.tables e below (T9.setTop (mkF m 21 #[.val (.int u), .val (.int (u &&& (7 : Int32))), .val (.ref wTAN), .unset] [(.int (1 : Int32))])) _
          refine XS.goto X9.here hx rfl (pc0 := 21) (pc' := 25) rfl (hb hby at_21) (by decide) (by decide) ?_
          show Steps p.tables e below (T9.setTop (mkF m 25 #[.val (.int u), .val (.int (u &&& (7 : Int32))), .val (.ref wTAN), .unset] [(.int (1 : Int32))])) _
          refine XS.istoreN X9.here hx rfl (hb hby at_25) rfl (l' := #[.val (.int u), .val (.int (u &&& (7 : Int32))), .val (.ref wTAN), .val (.int (1 : Int32))]) rfl ?_
          show Steps p.tables e below (T9.setTop (mkF m 26 #[.val (.int u), .val (.int (u &&& (7 : Int32))), .val (.ref wTAN), .val (.int (1 : Int32))] [])) _
          refine XS.aloadN X9.here hx rfl (hb hby at_26) rfl rfl ?_
          show Steps p.tables e below (T9.setTop (mkF m 27 #[.val (.int u), .val (.int (u &&& (7 : Int32))), .val (.ref wTAN), .val (.int (1 : Int32))] [(.ref wTAN)])) _
          refine st10.trans ?_
          show Steps p.tables e below (T10.setTop (mkF m 30 #[.val (.int u), .val (.int (u &&& (7 : Int32))), .val (.ref wTAN), .val (.int (1 : Int32))] [(.int (1 : Int32))])) _
          refine XS.iloadN X10.here hx rfl (hb hby at_30) rfl ?_
          show Steps p.tables e below (T10.setTop (mkF m 31 #[.val (.int u), .val (.int (u &&& (7 : Int32))), .val (.ref wTAN), .val (.int (1 : Int32))] [(.int (1 : Int32)), (.int (1 : Int32))])) _
          refine XS.icmpNo X10.here hx rfl (hb hby at_31) rfl (teq (by decide : (1 : Int32) = (1 : Int32))).2 ?_
          show Steps p.tables e below (T10.setTop (mkF m 34 #[.val (.int u), .val (.int (u &&& (7 : Int32))), .val (.ref wTAN), .val (.int (1 : Int32))] [])) _
          refine XS.iconst X10.here hx rfl (hb hby at_34) ?_
          show Steps p.tables e below (T10.setTop (mkF m 35 #[.val (.int u), .val (.int (u &&& (7 : Int32))), .val (.ref wTAN), .val (.int (1 : Int32))] [(.int (1 : Int32))])) _
          refine XS.goto X10.here hx rfl (pc0 := 35) (pc' := 39) rfl (hb hby at_35) (by decide) (by decide) ?_
          show Steps p.tables e below (T10.setTop (mkF m 39 #[.val (.int u), .val (.int (u &&& (7 : Int32))), .val (.ref wTAN), .val (.int (1 : Int32))] [(.int (1 : Int32))])) _
          exact retN X10 hx (t := .boolean) Bd.returns (by simp) (hb hby at_39) hr
        · show own_Q_own_law Z u wSIN wCOS wTAN wCOT wSINH wCOSH wTANH wCOTH h0 n0 _ T10.heap _
          rw [e10]
          exact ⟨rfl, N10⟩
      · skip
        by_cases hc11 : (u &&& (7 : Int32)) = (3 : Int32)
        · skip
          obtain ⟨_, _, ⟨T12, L12, k12, n12⟩, -, X12, ⟨Lc12, hQ12, l12, y12, z12⟩, st12⟩ := Jvm.LawKit.callS X0 hx (y := (⟨"com/example/longhand/longhand/trig/RatioOddPinLaw", "pick", "(I)Lcom/example/longhand/longhand/trig/Ratio;"⟩ : MethodName)) hown (mvT hZ (hw _ (List.mem_of_getElem? (i := 0) rfl))) (mvT hZ (hw _ (List.mem_of_getElem? (i := 1) rfl))) (mvT hZ (hw _ (List.mem_of_getElem? (i := 2) rfl))) (mvT hZ (hw _ (List.mem_of_getElem? (i := 3) rfl))) (by decide) (backOf (W := 0) (own_pick l Z a0 hw [] (u &&& (7 : Int32)) wSIN wCOS wTAN wCOT wSINH wCOSH wTANH wCOTH h0 n0 Z0 S_SIN S_COS S_TAN S_COT S_SINH S_COSH S_TANH S_COTH) hZ (hw _ (List.mem_of_getElem? (i := 3) rfl)) (hw _ (List.mem_of_getElem? (i := 2) rfl)) (by decide) (by decide)) (g := (mkF m 6 #[.val (.int u), .val (.int (u &&& (7 : Int32))), .unset, .unset] [(.int (u &&& (7 : Int32)))])) rfl (by rw [hml]; rfl) (argsL := [(.int (u &&& (7 : Int32)))]) (rest := []) (lenOf own_pd0 rfl) rfl (by show 2 * 0 + _ ≤ _; exact Nat.le_of_eq rfl) (hb hby at_6) (fun _ _ => ⟨rfl, e0, (by decide : 0 + 0 ≤ _), (by decide : 0 + 0 ≤ _)⟩)
          dsimp only [Pt.U, Pt.locs, Pt.cells, Pt.slots] at X12 l12 y12 z12 st12 hQ12
          subst l12 y12 z12
          obtain ⟨hv12, N12q, e12⟩ := hQ12
          simp [hc2, hc5, hc8, hc11] at hv12
          subst hv12
          have N12 := Fr.app N0 N12q
          obtain ⟨cq13, kq13, q13a, q13b, q13c⟩ := isOf hZ e12 E_wCOT
          obtain ⟨_, _, ⟨T13, L13, k13, n13⟩, -, X13, ⟨Lc13, hQ13, l13, y13, z13⟩, st13⟩ := X12.virtualBack hx (y := (⟨"com/example/longhand/longhand/trig/Ratio", "odd", "()Z"⟩ : MethodName)) (z := (⟨"com/example/longhand/longhand/trig/Ratio", "odd", "()Z"⟩ : MethodName)) hown (mvT hZ (hw _ (List.mem_of_getElem? (i := 7) rfl))) (mvT hZ (hw _ (List.mem_of_getElem? (i := 8) rfl))) (notFace_of_selects (args := #[]) (mvT hZ (hw _ (List.mem_of_getElem? (i := 10) rfl)))) (mvT hZ (hw _ (List.mem_of_getElem? (i := 10) rfl))) (mvT hZ (hw _ (List.mem_of_getElem? (i := 9) rfl))) (by decide) (backOf (W := 0) (own_odd l Z a0 hw [] wCOT (-1) h0 n0 Z0 F_wCOT) hZ (hw _ (List.mem_of_getElem? (i := 11) rfl)) (hw _ (List.mem_of_getElem? (i := 5) rfl)) (by decide) (by decide)) q13a q13c (g := (mkF m 27 #[.val (.int u), .val (.int (u &&& (7 : Int32))), .val (.ref wCOT), .val (.int (1 : Int32))] [(.ref wCOT)])) rfl (by rw [hml]; rfl) (Steps.refl _) (argsL := []) (rest := []) (lenOf own_pd1 rfl) rfl (by show 2 * 0 + _ ≤ _; exact Nat.le_of_eq rfl) (hb hby at_27) (fun _ _ => ⟨rfl, e12, (by decide : 0 + 0 ≤ _), (by decide : 0 + 0 ≤ _)⟩)
          dsimp only [Pt.U, Pt.locs, Pt.cells, Pt.slots] at X13 l13 y13 z13 st13 hQ13
          subst l13 y13 z13
          obtain ⟨hv13, N13q, e13⟩ := hQ13
          simp at hv13
          subst hv13
          have N13 := Fr.app N12 N13q
          obtain ⟨fs, hr, hrun, hended, hW, hsame⟩ := X13.leave (v := some (.int (1 : Int32))) (fun h => by rw [Bd.returns] at h; cases h)
          refine ⟨_, _, pre1 _ ?_, hrun, hended, _, _, rfl, ?_, ⟨_, rfl⟩, hW, hsame.mono (by decide) (by decide)⟩
          · show Steps p.tables e below (s₁.setTop (mkF m 6 #[.val (.int u), .val (.int (u &&& (7 : Int32))), .unset, .unset] [(.int (u &&& (7 : Int32)))])) _
            refine st12 _ ?_
            show Steps p.tables e below (T12.setTop (mkF m 9 #[.val (.int u), .val (.int (u &&& (7 : Int32))), .unset, .unset] [(.ref wCOT)])) _
            refine XS.astoreN X12.here hx rfl (hb hby at_9) rfl rfl (l' := #[.val (.int u), .val (.int (u &&& (7 : Int32))), .val (.ref wCOT), .unset]) rfl ?_
            show Steps p.tables e below (T12.setTop (mkF m 10 #[.val (.int u), .val (.int (u &&& (7 : Int32))), .val (.ref wCOT), .unset] [])) _
            refine XS.iloadN X12.here hx rfl (hb hby at_10) rfl ?_
            show Steps p.tables e below (T12.setTop (mkF m 11 #[.val (.int u), .val (.int (u &&& (7 : Int32))), .val (.ref wCOT), .unset] [(.int (u &&& (7 : Int32)))])) _
            refine XS.iconst X12.here hx rfl (hb hby at_11) ?_
            show Steps p.tables e below (T12.setTop (mkF m 12 #[.val (.int u), .val (.int (u &&& (7 : Int32))), .val (.ref wCOT), .unset] [(.int (1 : Int32)), (.int (u &&& (7 : Int32)))])) _
            refine XS.icmpNo X12.here hx rfl (hb hby at_12) rfl (feq hc5).1 ?_
            show Steps p.tables e below (T12.setTop (mkF m 15 #[.val (.int u), .val (.int (u &&& (7 : Int32))), .val (.ref wCOT), .unset] [])) _
            refine XS.iloadN X12.here hx rfl (hb hby at_15) rfl ?_
            show Steps p.tables e below (T12.setTop (mkF m 16 #[.val (.int u), .val (.int (u &&& (7 : Int32))), .val (.ref wCOT), .unset] [(.int (u &&& (7 : Int32)))])) _
            refine XS.iconst X12.here hx rfl (hb hby at_16) ?_
            show Steps p.tables e below (T12.setTop (mkF m 17 #[.val (.int u), .val (.int (u &&& (7 : Int32))), .val (.ref wCOT), .unset] [(.int (5 : Int32)), (.int (u &&& (7 : Int32)))])) _
            refine XS.icmpNo X12.here hx rfl (hb hby at_17) rfl (feq (by rw [hc11]; decide : ¬ ((u &&& (7 : Int32)) = (5 : Int32)))).1 ?_
            show Steps p.tables e below (T12.setTop (mkF m 20 #[.val (.int u), .val (.int (u &&& (7 : Int32))), .val (.ref wCOT), .unset] [])) _
            refine XS.iconst X12.here hx rfl (hb hby at_20) ?_
            show Steps p.tables e below (T12.setTop (mkF m 21 #[.val (.int u), .val (.int (u &&& (7 : Int32))), .val (.ref wCOT), .unset] [(.int (1 : Int32))])) _
            refine XS.goto X12.here hx rfl (pc0 := 21) (pc' := 25) rfl (hb hby at_21) (by decide) (by decide) ?_
            show Steps p.tables e below (T12.setTop (mkF m 25 #[.val (.int u), .val (.int (u &&& (7 : Int32))), .val (.ref wCOT), .unset] [(.int (1 : Int32))])) _
            refine XS.istoreN X12.here hx rfl (hb hby at_25) rfl (l' := #[.val (.int u), .val (.int (u &&& (7 : Int32))), .val (.ref wCOT), .val (.int (1 : Int32))]) rfl ?_
            show Steps p.tables e below (T12.setTop (mkF m 26 #[.val (.int u), .val (.int (u &&& (7 : Int32))), .val (.ref wCOT), .val (.int (1 : Int32))] [])) _
            refine XS.aloadN X12.here hx rfl (hb hby at_26) rfl rfl ?_
            show Steps p.tables e below (T12.setTop (mkF m 27 #[.val (.int u), .val (.int (u &&& (7 : Int32))), .val (.ref wCOT), .val (.int (1 : Int32))] [(.ref wCOT)])) _
            refine st13.trans ?_
            show Steps p.tables e below (T13.setTop (mkF m 30 #[.val (.int u), .val (.int (u &&& (7 : Int32))), .val (.ref wCOT), .val (.int (1 : Int32))] [(.int (1 : Int32))])) _
            refine XS.iloadN X13.here hx rfl (hb hby at_30) rfl ?_
            show Steps p.tables e below (T13.setTop (mkF m 31 #[.val (.int u), .val (.int (u &&& (7 : Int32))), .val (.ref wCOT), .val (.int (1 : Int32))] [(.int (1 : Int32)), (.int (1 : Int32))])) _
            refine XS.icmpNo X13.here hx rfl (hb hby at_31) rfl (teq (by decide : (1 : Int32) = (1 : Int32))).2 ?_
            show Steps p.tables e below (T13.setTop (mkF m 34 #[.val (.int u), .val (.int (u &&& (7 : Int32))), .val (.ref wCOT), .val (.int (1 : Int32))] [])) _
            refine XS.iconst X13.here hx rfl (hb hby at_34) ?_
            show Steps p.tables e below (T13.setTop (mkF m 35 #[.val (.int u), .val (.int (u &&& (7 : Int32))), .val (.ref wCOT), .val (.int (1 : Int32))] [(.int (1 : Int32))])) _
            refine XS.goto X13.here hx rfl (pc0 := 35) (pc' := 39) rfl (hb hby at_35) (by decide) (by decide) ?_
            show Steps p.tables e below (T13.setTop (mkF m 39 #[.val (.int u), .val (.int (u &&& (7 : Int32))), .val (.ref wCOT), .val (.int (1 : Int32))] [(.int (1 : Int32))])) _
            exact retN X13 hx (t := .boolean) Bd.returns (by simp) (hb hby at_39) hr
          · show own_Q_own_law Z u wSIN wCOS wTAN wCOT wSINH wCOSH wTANH wCOTH h0 n0 _ T13.heap _
            rw [e13]
            exact ⟨rfl, N13⟩
        · skip
          by_cases hc14 : (u &&& (7 : Int32)) = (4 : Int32)
          · skip
            obtain ⟨_, _, ⟨T15, L15, k15, n15⟩, -, X15, ⟨Lc15, hQ15, l15, y15, z15⟩, st15⟩ := Jvm.LawKit.callS X0 hx (y := (⟨"com/example/longhand/longhand/trig/RatioOddPinLaw", "pick", "(I)Lcom/example/longhand/longhand/trig/Ratio;"⟩ : MethodName)) hown (mvT hZ (hw _ (List.mem_of_getElem? (i := 0) rfl))) (mvT hZ (hw _ (List.mem_of_getElem? (i := 1) rfl))) (mvT hZ (hw _ (List.mem_of_getElem? (i := 2) rfl))) (mvT hZ (hw _ (List.mem_of_getElem? (i := 3) rfl))) (by decide) (backOf (W := 0) (own_pick l Z a0 hw [] (u &&& (7 : Int32)) wSIN wCOS wTAN wCOT wSINH wCOSH wTANH wCOTH h0 n0 Z0 S_SIN S_COS S_TAN S_COT S_SINH S_COSH S_TANH S_COTH) hZ (hw _ (List.mem_of_getElem? (i := 3) rfl)) (hw _ (List.mem_of_getElem? (i := 2) rfl)) (by decide) (by decide)) (g := (mkF m 6 #[.val (.int u), .val (.int (u &&& (7 : Int32))), .unset, .unset] [(.int (u &&& (7 : Int32)))])) rfl (by rw [hml]; rfl) (argsL := [(.int (u &&& (7 : Int32)))]) (rest := []) (lenOf own_pd0 rfl) rfl (by show 2 * 0 + _ ≤ _; exact Nat.le_of_eq rfl) (hb hby at_6) (fun _ _ => ⟨rfl, e0, (by decide : 0 + 0 ≤ _), (by decide : 0 + 0 ≤ _)⟩)
            dsimp only [Pt.U, Pt.locs, Pt.cells, Pt.slots] at X15 l15 y15 z15 st15 hQ15
            subst l15 y15 z15
            obtain ⟨hv15, N15q, e15⟩ := hQ15
            simp [hc2, hc5, hc8, hc11, hc14] at hv15
            subst hv15
            have N15 := Fr.app N0 N15q
            obtain ⟨cq16, kq16, q16a, q16b, q16c⟩ := isOf hZ e15 E_wSINH
            obtain ⟨_, _, ⟨T16, L16, k16, n16⟩, -, X16, ⟨Lc16, hQ16, l16, y16, z16⟩, st16⟩ := X15.virtualBack hx (y := (⟨"com/example/longhand/longhand/trig/Ratio", "odd", "()Z"⟩ : MethodName)) (z := (⟨"com/example/longhand/longhand/trig/Ratio", "odd", "()Z"⟩ : MethodName)) hown (mvT hZ (hw _ (List.mem_of_getElem? (i := 7) rfl))) (mvT hZ (hw _ (List.mem_of_getElem? (i := 8) rfl))) (notFace_of_selects (args := #[]) (mvT hZ (hw _ (List.mem_of_getElem? (i := 10) rfl)))) (mvT hZ (hw _ (List.mem_of_getElem? (i := 10) rfl))) (mvT hZ (hw _ (List.mem_of_getElem? (i := 9) rfl))) (by decide) (backOf (W := 0) (own_odd l Z a0 hw [] wSINH (1) h0 n0 Z0 F_wSINH) hZ (hw _ (List.mem_of_getElem? (i := 11) rfl)) (hw _ (List.mem_of_getElem? (i := 5) rfl)) (by decide) (by decide)) q16a q16c (g := (mkF m 27 #[.val (.int u), .val (.int (u &&& (7 : Int32))), .val (.ref wSINH), .val (.int (1 : Int32))] [(.ref wSINH)])) rfl (by rw [hml]; rfl) (Steps.refl _) (argsL := []) (rest := []) (lenOf own_pd1 rfl) rfl (by show 2 * 0 + _ ≤ _; exact Nat.le_of_eq rfl) (hb hby at_27) (fun _ _ => ⟨rfl, e15, (by decide : 0 + 0 ≤ _), (by decide : 0 + 0 ≤ _)⟩)
            dsimp only [Pt.U, Pt.locs, Pt.cells, Pt.slots] at X16 l16 y16 z16 st16 hQ16
            subst l16 y16 z16
            obtain ⟨hv16, N16q, e16⟩ := hQ16
            simp at hv16
            subst hv16
            have N16 := Fr.app N15 N16q
            obtain ⟨fs, hr, hrun, hended, hW, hsame⟩ := X16.leave (v := some (.int (1 : Int32))) (fun h => by rw [Bd.returns] at h; cases h)
            refine ⟨_, _, pre1 _ ?_, hrun, hended, _, _, rfl, ?_, ⟨_, rfl⟩, hW, hsame.mono (by decide) (by decide)⟩
            · show Steps p.tables e below (s₁.setTop (mkF m 6 #[.val (.int u), .val (.int (u &&& (7 : Int32))), .unset, .unset] [(.int (u &&& (7 : Int32)))])) _
              refine st15 _ ?_
              show Steps p.tables e below (T15.setTop (mkF m 9 #[.val (.int u), .val (.int (u &&& (7 : Int32))), .unset, .unset] [(.ref wSINH)])) _
              refine XS.astoreN X15.here hx rfl (hb hby at_9) rfl rfl (l' := #[.val (.int u), .val (.int (u &&& (7 : Int32))), .val (.ref wSINH), .unset]) rfl ?_
              show Steps p.tables e below (T15.setTop (mkF m 10 #[.val (.int u), .val (.int (u &&& (7 : Int32))), .val (.ref wSINH), .unset] [])) _
              refine XS.iloadN X15.here hx rfl (hb hby at_10) rfl ?_
              show Steps p.tables e below (T15.setTop (mkF m 11 #[.val (.int u), .val (.int (u &&& (7 : Int32))), .val (.ref wSINH), .unset] [(.int (u &&& (7 : Int32)))])) _
              refine XS.iconst X15.here hx rfl (hb hby at_11) ?_
              show Steps p.tables e below (T15.setTop (mkF m 12 #[.val (.int u), .val (.int (u &&& (7 : Int32))), .val (.ref wSINH), .unset] [(.int (1 : Int32)), (.int (u &&& (7 : Int32)))])) _
              refine XS.icmpNo X15.here hx rfl (hb hby at_12) rfl (feq hc5).1 ?_
              show Steps p.tables e below (T15.setTop (mkF m 15 #[.val (.int u), .val (.int (u &&& (7 : Int32))), .val (.ref wSINH), .unset] [])) _
              refine XS.iloadN X15.here hx rfl (hb hby at_15) rfl ?_
              show Steps p.tables e below (T15.setTop (mkF m 16 #[.val (.int u), .val (.int (u &&& (7 : Int32))), .val (.ref wSINH), .unset] [(.int (u &&& (7 : Int32)))])) _
              refine XS.iconst X15.here hx rfl (hb hby at_16) ?_
              show Steps p.tables e below (T15.setTop (mkF m 17 #[.val (.int u), .val (.int (u &&& (7 : Int32))), .val (.ref wSINH), .unset] [(.int (5 : Int32)), (.int (u &&& (7 : Int32)))])) _
              refine XS.icmpNo X15.here hx rfl (hb hby at_17) rfl (feq (by rw [hc14]; decide : ¬ ((u &&& (7 : Int32)) = (5 : Int32)))).1 ?_
              show Steps p.tables e below (T15.setTop (mkF m 20 #[.val (.int u), .val (.int (u &&& (7 : Int32))), .val (.ref wSINH), .unset] [])) _
              refine XS.iconst X15.here hx rfl (hb hby at_20) ?_
              show Steps p.tables e below (T15.setTop (mkF m 21 #[.val (.int u), .val (.int (u &&& (7 : Int32))), .val (.ref wSINH), .unset] [(.int (1 : Int32))])) _
              refine XS.goto X15.here hx rfl (pc0 := 21) (pc' := 25) rfl (hb hby at_21) (by decide) (by decide) ?_
              show Steps p.tables e below (T15.setTop (mkF m 25 #[.val (.int u), .val (.int (u &&& (7 : Int32))), .val (.ref wSINH), .unset] [(.int (1 : Int32))])) _
              refine XS.istoreN X15.here hx rfl (hb hby at_25) rfl (l' := #[.val (.int u), .val (.int (u &&& (7 : Int32))), .val (.ref wSINH), .val (.int (1 : Int32))]) rfl ?_
              show Steps p.tables e below (T15.setTop (mkF m 26 #[.val (.int u), .val (.int (u &&& (7 : Int32))), .val (.ref wSINH), .val (.int (1 : Int32))] [])) _
              refine XS.aloadN X15.here hx rfl (hb hby at_26) rfl rfl ?_
              show Steps p.tables e below (T15.setTop (mkF m 27 #[.val (.int u), .val (.int (u &&& (7 : Int32))), .val (.ref wSINH), .val (.int (1 : Int32))] [(.ref wSINH)])) _
              refine st16.trans ?_
              show Steps p.tables e below (T16.setTop (mkF m 30 #[.val (.int u), .val (.int (u &&& (7 : Int32))), .val (.ref wSINH), .val (.int (1 : Int32))] [(.int (1 : Int32))])) _
              refine XS.iloadN X16.here hx rfl (hb hby at_30) rfl ?_
              show Steps p.tables e below (T16.setTop (mkF m 31 #[.val (.int u), .val (.int (u &&& (7 : Int32))), .val (.ref wSINH), .val (.int (1 : Int32))] [(.int (1 : Int32)), (.int (1 : Int32))])) _
              refine XS.icmpNo X16.here hx rfl (hb hby at_31) rfl (teq (by decide : (1 : Int32) = (1 : Int32))).2 ?_
              show Steps p.tables e below (T16.setTop (mkF m 34 #[.val (.int u), .val (.int (u &&& (7 : Int32))), .val (.ref wSINH), .val (.int (1 : Int32))] [])) _
              refine XS.iconst X16.here hx rfl (hb hby at_34) ?_
              show Steps p.tables e below (T16.setTop (mkF m 35 #[.val (.int u), .val (.int (u &&& (7 : Int32))), .val (.ref wSINH), .val (.int (1 : Int32))] [(.int (1 : Int32))])) _
              refine XS.goto X16.here hx rfl (pc0 := 35) (pc' := 39) rfl (hb hby at_35) (by decide) (by decide) ?_
              show Steps p.tables e below (T16.setTop (mkF m 39 #[.val (.int u), .val (.int (u &&& (7 : Int32))), .val (.ref wSINH), .val (.int (1 : Int32))] [(.int (1 : Int32))])) _
              exact retN X16 hx (t := .boolean) Bd.returns (by simp) (hb hby at_39) hr
            · show own_Q_own_law Z u wSIN wCOS wTAN wCOT wSINH wCOSH wTANH wCOTH h0 n0 _ T16.heap _
              rw [e16]
              exact ⟨rfl, N16⟩
          · skip
            by_cases hc17 : (u &&& (7 : Int32)) = (5 : Int32)
            · skip
              obtain ⟨_, _, ⟨T18, L18, k18, n18⟩, -, X18, ⟨Lc18, hQ18, l18, y18, z18⟩, st18⟩ := Jvm.LawKit.callS X0 hx (y := (⟨"com/example/longhand/longhand/trig/RatioOddPinLaw", "pick", "(I)Lcom/example/longhand/longhand/trig/Ratio;"⟩ : MethodName)) hown (mvT hZ (hw _ (List.mem_of_getElem? (i := 0) rfl))) (mvT hZ (hw _ (List.mem_of_getElem? (i := 1) rfl))) (mvT hZ (hw _ (List.mem_of_getElem? (i := 2) rfl))) (mvT hZ (hw _ (List.mem_of_getElem? (i := 3) rfl))) (by decide) (backOf (W := 0) (own_pick l Z a0 hw [] (u &&& (7 : Int32)) wSIN wCOS wTAN wCOT wSINH wCOSH wTANH wCOTH h0 n0 Z0 S_SIN S_COS S_TAN S_COT S_SINH S_COSH S_TANH S_COTH) hZ (hw _ (List.mem_of_getElem? (i := 3) rfl)) (hw _ (List.mem_of_getElem? (i := 2) rfl)) (by decide) (by decide)) (g := (mkF m 6 #[.val (.int u), .val (.int (u &&& (7 : Int32))), .unset, .unset] [(.int (u &&& (7 : Int32)))])) rfl (by rw [hml]; rfl) (argsL := [(.int (u &&& (7 : Int32)))]) (rest := []) (lenOf own_pd0 rfl) rfl (by show 2 * 0 + _ ≤ _; exact Nat.le_of_eq rfl) (hb hby at_6) (fun _ _ => ⟨rfl, e0, (by decide : 0 + 0 ≤ _), (by decide : 0 + 0 ≤ _)⟩)
              dsimp only [Pt.U, Pt.locs, Pt.cells, Pt.slots] at X18 l18 y18 z18 st18 hQ18
              subst l18 y18 z18
              obtain ⟨hv18, N18q, e18⟩ := hQ18
              simp [hc2, hc5, hc8, hc11, hc14, hc17] at hv18
              subst hv18
              have N18 := Fr.app N0 N18q
              obtain ⟨cq19, kq19, q19a, q19b, q19c⟩ := isOf hZ e18 E_wCOSH
              obtain ⟨_, _, ⟨T19, L19, k19, n19⟩, -, X19, ⟨Lc19, hQ19, l19, y19, z19⟩, st19⟩ := X18.virtualBack hx (y := (⟨"com/example/longhand/longhand/trig/Ratio", "odd", "()Z"⟩ : MethodName)) (z := (⟨"com/example/longhand/longhand/trig/Ratio", "odd", "()Z"⟩ : MethodName)) hown (mvT hZ (hw _ (List.mem_of_getElem? (i := 7) rfl))) (mvT hZ (hw _ (List.mem_of_getElem? (i := 8) rfl))) (notFace_of_selects (args := #[]) (mvT hZ (hw _ (List.mem_of_getElem? (i := 10) rfl)))) (mvT hZ (hw _ (List.mem_of_getElem? (i := 10) rfl))) (mvT hZ (hw _ (List.mem_of_getElem? (i := 9) rfl))) (by decide) (backOf (W := 0) (own_odd l Z a0 hw [] wCOSH (0) h0 n0 Z0 F_wCOSH) hZ (hw _ (List.mem_of_getElem? (i := 11) rfl)) (hw _ (List.mem_of_getElem? (i := 5) rfl)) (by decide) (by decide)) q19a q19c (g := (mkF m 27 #[.val (.int u), .val (.int (u &&& (7 : Int32))), .val (.ref wCOSH), .val (.int (0 : Int32))] [(.ref wCOSH)])) rfl (by rw [hml]; rfl) (Steps.refl _) (argsL := []) (rest := []) (lenOf own_pd1 rfl) rfl (by show 2 * 0 + _ ≤ _; exact Nat.le_of_eq rfl) (hb hby at_27) (fun _ _ => ⟨rfl, e18, (by decide : 0 + 0 ≤ _), (by decide : 0 + 0 ≤ _)⟩)
              dsimp only [Pt.U, Pt.locs, Pt.cells, Pt.slots] at X19 l19 y19 z19 st19 hQ19
              subst l19 y19 z19
              obtain ⟨hv19, N19q, e19⟩ := hQ19
              simp at hv19
              subst hv19
              have N19 := Fr.app N18 N19q
              obtain ⟨fs, hr, hrun, hended, hW, hsame⟩ := X19.leave (v := some (.int (1 : Int32))) (fun h => by rw [Bd.returns] at h; cases h)
              refine ⟨_, _, pre1 _ ?_, hrun, hended, _, _, rfl, ?_, ⟨_, rfl⟩, hW, hsame.mono (by decide) (by decide)⟩
              · show Steps p.tables e below (s₁.setTop (mkF m 6 #[.val (.int u), .val (.int (u &&& (7 : Int32))), .unset, .unset] [(.int (u &&& (7 : Int32)))])) _
                refine st18 _ ?_
                show Steps p.tables e below (T18.setTop (mkF m 9 #[.val (.int u), .val (.int (u &&& (7 : Int32))), .unset, .unset] [(.ref wCOSH)])) _
                refine XS.astoreN X18.here hx rfl (hb hby at_9) rfl rfl (l' := #[.val (.int u), .val (.int (u &&& (7 : Int32))), .val (.ref wCOSH), .unset]) rfl ?_
                show Steps p.tables e below (T18.setTop (mkF m 10 #[.val (.int u), .val (.int (u &&& (7 : Int32))), .val (.ref wCOSH), .unset] [])) _
                refine XS.iloadN X18.here hx rfl (hb hby at_10) rfl ?_
                show Steps p.tables e below (T18.setTop (mkF m 11 #[.val (.int u), .val (.int (u &&& (7 : Int32))), .val (.ref wCOSH), .unset] [(.int (u &&& (7 : Int32)))])) _
                refine XS.iconst X18.here hx rfl (hb hby at_11) ?_
                show Steps p.tables e below (T18.setTop (mkF m 12 #[.val (.int u), .val (.int (u &&& (7 : Int32))), .val (.ref wCOSH), .unset] [(.int (1 : Int32)), (.int (u &&& (7 : Int32)))])) _
                refine XS.icmpNo X18.here hx rfl (hb hby at_12) rfl (feq hc5).1 ?_
                show Steps p.tables e below (T18.setTop (mkF m 15 #[.val (.int u), .val (.int (u &&& (7 : Int32))), .val (.ref wCOSH), .unset] [])) _
                refine XS.iloadN X18.here hx rfl (hb hby at_15) rfl ?_
                show Steps p.tables e below (T18.setTop (mkF m 16 #[.val (.int u), .val (.int (u &&& (7 : Int32))), .val (.ref wCOSH), .unset] [(.int (u &&& (7 : Int32)))])) _
                refine XS.iconst X18.here hx rfl (hb hby at_16) ?_
                show Steps p.tables e below (T18.setTop (mkF m 17 #[.val (.int u), .val (.int (u &&& (7 : Int32))), .val (.ref wCOSH), .unset] [(.int (5 : Int32)), (.int (u &&& (7 : Int32)))])) _
                refine XS.icmpYes X18.here hx rfl (pc0 := 17) (pc' := 24) rfl (hb hby at_17) rfl (teq hc17).1 (by decide) (by decide) ?_
                show Steps p.tables e below (T18.setTop (mkF m 24 #[.val (.int u), .val (.int (u &&& (7 : Int32))), .val (.ref wCOSH), .unset] [])) _
                refine XS.iconst X18.here hx rfl (hb hby at_24) ?_
                show Steps p.tables e below (T18.setTop (mkF m 25 #[.val (.int u), .val (.int (u &&& (7 : Int32))), .val (.ref wCOSH), .unset] [(.int (0 : Int32))])) _
                refine XS.istoreN X18.here hx rfl (hb hby at_25) rfl (l' := #[.val (.int u), .val (.int (u &&& (7 : Int32))), .val (.ref wCOSH), .val (.int (0 : Int32))]) rfl ?_
                show Steps p.tables e below (T18.setTop (mkF m 26 #[.val (.int u), .val (.int (u &&& (7 : Int32))), .val (.ref wCOSH), .val (.int (0 : Int32))] [])) _
                refine XS.aloadN X18.here hx rfl (hb hby at_26) rfl rfl ?_
                show Steps p.tables e below (T18.setTop (mkF m 27 #[.val (.int u), .val (.int (u &&& (7 : Int32))), .val (.ref wCOSH), .val (.int (0 : Int32))] [(.ref wCOSH)])) _
                refine st19.trans ?_
                show Steps p.tables e below (T19.setTop (mkF m 30 #[.val (.int u), .val (.int (u &&& (7 : Int32))), .val (.ref wCOSH), .val (.int (0 : Int32))] [(.int (0 : Int32))])) _
                refine XS.iloadN X19.here hx rfl (hb hby at_30) rfl ?_
                show Steps p.tables e below (T19.setTop (mkF m 31 #[.val (.int u), .val (.int (u &&& (7 : Int32))), .val (.ref wCOSH), .val (.int (0 : Int32))] [(.int (0 : Int32)), (.int (0 : Int32))])) _
                refine XS.icmpNo X19.here hx rfl (hb hby at_31) rfl (teq (by decide : (0 : Int32) = (0 : Int32))).2 ?_
                show Steps p.tables e below (T19.setTop (mkF m 34 #[.val (.int u), .val (.int (u &&& (7 : Int32))), .val (.ref wCOSH), .val (.int (0 : Int32))] [])) _
                refine XS.iconst X19.here hx rfl (hb hby at_34) ?_
                show Steps p.tables e below (T19.setTop (mkF m 35 #[.val (.int u), .val (.int (u &&& (7 : Int32))), .val (.ref wCOSH), .val (.int (0 : Int32))] [(.int (1 : Int32))])) _
                refine XS.goto X19.here hx rfl (pc0 := 35) (pc' := 39) rfl (hb hby at_35) (by decide) (by decide) ?_
                show Steps p.tables e below (T19.setTop (mkF m 39 #[.val (.int u), .val (.int (u &&& (7 : Int32))), .val (.ref wCOSH), .val (.int (0 : Int32))] [(.int (1 : Int32))])) _
                exact retN X19 hx (t := .boolean) Bd.returns (by simp) (hb hby at_39) hr
              · show own_Q_own_law Z u wSIN wCOS wTAN wCOT wSINH wCOSH wTANH wCOTH h0 n0 _ T19.heap _
                rw [e19]
                exact ⟨rfl, N19⟩
            · skip
              by_cases hc20 : (u &&& (7 : Int32)) = (6 : Int32)
              · skip
                obtain ⟨_, _, ⟨T21, L21, k21, n21⟩, -, X21, ⟨Lc21, hQ21, l21, y21, z21⟩, st21⟩ := Jvm.LawKit.callS X0 hx (y := (⟨"com/example/longhand/longhand/trig/RatioOddPinLaw", "pick", "(I)Lcom/example/longhand/longhand/trig/Ratio;"⟩ : MethodName)) hown (mvT hZ (hw _ (List.mem_of_getElem? (i := 0) rfl))) (mvT hZ (hw _ (List.mem_of_getElem? (i := 1) rfl))) (mvT hZ (hw _ (List.mem_of_getElem? (i := 2) rfl))) (mvT hZ (hw _ (List.mem_of_getElem? (i := 3) rfl))) (by decide) (backOf (W := 0) (own_pick l Z a0 hw [] (u &&& (7 : Int32)) wSIN wCOS wTAN wCOT wSINH wCOSH wTANH wCOTH h0 n0 Z0 S_SIN S_COS S_TAN S_COT S_SINH S_COSH S_TANH S_COTH) hZ (hw _ (List.mem_of_getElem? (i := 3) rfl)) (hw _ (List.mem_of_getElem? (i := 2) rfl)) (by decide) (by decide)) (g := (mkF m 6 #[.val (.int u), .val (.int (u &&& (7 : Int32))), .unset, .unset] [(.int (u &&& (7 : Int32)))])) rfl (by rw [hml]; rfl) (argsL := [(.int (u &&& (7 : Int32)))]) (rest := []) (lenOf own_pd0 rfl) rfl (by show 2 * 0 + _ ≤ _; exact Nat.le_of_eq rfl) (hb hby at_6) (fun _ _ => ⟨rfl, e0, (by decide : 0 + 0 ≤ _), (by decide : 0 + 0 ≤ _)⟩)
                dsimp only [Pt.U, Pt.locs, Pt.cells, Pt.slots] at X21 l21 y21 z21 st21 hQ21
                subst l21 y21 z21
                obtain ⟨hv21, N21q, e21⟩ := hQ21
                simp [hc2, hc5, hc8, hc11, hc14, hc17, hc20] at hv21
                subst hv21
                have N21 := Fr.app N0 N21q
                obtain ⟨cq22, kq22, q22a, q22b, q22c⟩ := isOf hZ e21 E_wTANH
                obtain ⟨_, _, ⟨T22, L22, k22, n22⟩, -, X22, ⟨Lc22, hQ22, l22, y22, z22⟩, st22⟩ := X21.virtualBack hx (y := (⟨"com/example/longhand/longhand/trig/Ratio", "odd", "()Z"⟩ : MethodName)) (z := (⟨"com/example/longhand/longhand/trig/Ratio", "odd", "()Z"⟩ : MethodName)) hown (mvT hZ (hw _ (List.mem_of_getElem? (i := 7) rfl))) (mvT hZ (hw _ (List.mem_of_getElem? (i := 8) rfl))) (notFace_of_selects (args := #[]) (mvT hZ (hw _ (List.mem_of_getElem? (i := 10) rfl)))) (mvT hZ (hw _ (List.mem_of_getElem? (i := 10) rfl))) (mvT hZ (hw _ (List.mem_of_getElem? (i := 9) rfl))) (by decide) (backOf (W := 0) (own_odd l Z a0 hw [] wTANH (1) h0 n0 Z0 F_wTANH) hZ (hw _ (List.mem_of_getElem? (i := 11) rfl)) (hw _ (List.mem_of_getElem? (i := 5) rfl)) (by decide) (by decide)) q22a q22c (g := (mkF m 27 #[.val (.int u), .val (.int (u &&& (7 : Int32))), .val (.ref wTANH), .val (.int (1 : Int32))] [(.ref wTANH)])) rfl (by rw [hml]; rfl) (Steps.refl _) (argsL := []) (rest := []) (lenOf own_pd1 rfl) rfl (by show 2 * 0 + _ ≤ _; exact Nat.le_of_eq rfl) (hb hby at_27) (fun _ _ => ⟨rfl, e21, (by decide : 0 + 0 ≤ _), (by decide : 0 + 0 ≤ _)⟩)
                dsimp only [Pt.U, Pt.locs, Pt.cells, Pt.slots] at X22 l22 y22 z22 st22 hQ22
                subst l22 y22 z22
                obtain ⟨hv22, N22q, e22⟩ := hQ22
                simp at hv22
                subst hv22
                have N22 := Fr.app N21 N22q
                obtain ⟨fs, hr, hrun, hended, hW, hsame⟩ := X22.leave (v := some (.int (1 : Int32))) (fun h => by rw [Bd.returns] at h; cases h)
                refine ⟨_, _, pre1 _ ?_, hrun, hended, _, _, rfl, ?_, ⟨_, rfl⟩, hW, hsame.mono (by decide) (by decide)⟩
                · show Steps p.tables e below (s₁.setTop (mkF m 6 #[.val (.int u), .val (.int (u &&& (7 : Int32))), .unset, .unset] [(.int (u &&& (7 : Int32)))])) _
                  refine st21 _ ?_
                  show Steps p.tables e below (T21.setTop (mkF m 9 #[.val (.int u), .val (.int (u &&& (7 : Int32))), .unset, .unset] [(.ref wTANH)])) _
                  refine XS.astoreN X21.here hx rfl (hb hby at_9) rfl rfl (l' := #[.val (.int u), .val (.int (u &&& (7 : Int32))), .val (.ref wTANH), .unset]) rfl ?_
                  show Steps p.tables e below (T21.setTop (mkF m 10 #[.val (.int u), .val (.int (u &&& (7 : Int32))), .val (.ref wTANH), .unset] [])) _
                  refine XS.iloadN X21.here hx rfl (hb hby at_10) rfl ?_
                  show Steps p.tables e below (T21.setTop (mkF m 11 #[.val (.int u), .val (.int (u &&& (7 : Int32))), .val (.ref wTANH), .unset] [(.int (u &&& (7 : Int32)))])) _
                  refine XS.iconst X21.here hx rfl (hb hby at_11) ?_
                  show Steps p.tables e below (T21.setTop (mkF m 12 #[.val (.int u), .val (.int (u &&& (7 : Int32))), .val (.ref wTANH), .unset] [(.int (1 : Int32)), (.int (u &&& (7 : Int32)))])) _
                  refine XS.icmpNo X21.here hx rfl (hb hby at_12) rfl (feq hc5).1 ?_
                  show Steps p.tables e below (T21.setTop (mkF m 15 #[.val (.int u), .val (.int (u &&& (7 : Int32))), .val (.ref wTANH), .unset] [])) _
                  refine XS.iloadN X21.here hx rfl (hb hby at_15) rfl ?_
                  show Steps p.tables e below (T21.setTop (mkF m 16 #[.val (.int u), .val (.int (u &&& (7 : Int32))), .val (.ref wTANH), .unset] [(.int (u &&& (7 : Int32)))])) _
                  refine XS.iconst X21.here hx rfl (hb hby at_16) ?_
                  show Steps p.tables e below (T21.setTop (mkF m 17 #[.val (.int u), .val (.int (u &&& (7 : Int32))), .val (.ref wTANH), .unset] [(.int (5 : Int32)), (.int (u &&& (7 : Int32)))])) _
                  refine XS.icmpNo X21.here hx rfl (hb hby at_17) rfl (feq hc17).1 ?_
                  show Steps p.tables e below (T21.setTop (mkF m 20 #[.val (.int u), .val (.int (u &&& (7 : Int32))), .val (.ref wTANH), .unset] [])) _
                  refine XS.iconst X21.here hx rfl (hb hby at_20) ?_
                  show Steps p.tables e below (T21.setTop (mkF m 21 #[.val (.int u), .val (.int (u &&& (7 : Int32))), .val (.ref wTANH), .unset] [(.int (1 : Int32))])) _
                  refine XS.goto X21.here hx rfl (pc0 := 21) (pc' := 25) rfl (hb hby at_21) (by decide) (by decide) ?_
                  show Steps p.tables e below (T21.setTop (mkF m 25 #[.val (.int u), .val (.int (u &&& (7 : Int32))), .val (.ref wTANH), .unset] [(.int (1 : Int32))])) _
                  refine XS.istoreN X21.here hx rfl (hb hby at_25) rfl (l' := #[.val (.int u), .val (.int (u &&& (7 : Int32))), .val (.ref wTANH), .val (.int (1 : Int32))]) rfl ?_
                  show Steps p.tables e below (T21.setTop (mkF m 26 #[.val (.int u), .val (.int (u &&& (7 : Int32))), .val (.ref wTANH), .val (.int (1 : Int32))] [])) _
                  refine XS.aloadN X21.here hx rfl (hb hby at_26) rfl rfl ?_
                  show Steps p.tables e below (T21.setTop (mkF m 27 #[.val (.int u), .val (.int (u &&& (7 : Int32))), .val (.ref wTANH), .val (.int (1 : Int32))] [(.ref wTANH)])) _
                  refine st22.trans ?_
                  show Steps p.tables e below (T22.setTop (mkF m 30 #[.val (.int u), .val (.int (u &&& (7 : Int32))), .val (.ref wTANH), .val (.int (1 : Int32))] [(.int (1 : Int32))])) _
                  refine XS.iloadN X22.here hx rfl (hb hby at_30) rfl ?_
                  show Steps p.tables e below (T22.setTop (mkF m 31 #[.val (.int u), .val (.int (u &&& (7 : Int32))), .val (.ref wTANH), .val (.int (1 : Int32))] [(.int (1 : Int32)), (.int (1 : Int32))])) _
                  refine XS.icmpNo X22.here hx rfl (hb hby at_31) rfl (teq (by decide : (1 : Int32) = (1 : Int32))).2 ?_
                  show Steps p.tables e below (T22.setTop (mkF m 34 #[.val (.int u), .val (.int (u &&& (7 : Int32))), .val (.ref wTANH), .val (.int (1 : Int32))] [])) _
                  refine XS.iconst X22.here hx rfl (hb hby at_34) ?_
                  show Steps p.tables e below (T22.setTop (mkF m 35 #[.val (.int u), .val (.int (u &&& (7 : Int32))), .val (.ref wTANH), .val (.int (1 : Int32))] [(.int (1 : Int32))])) _
                  refine XS.goto X22.here hx rfl (pc0 := 35) (pc' := 39) rfl (hb hby at_35) (by decide) (by decide) ?_
                  show Steps p.tables e below (T22.setTop (mkF m 39 #[.val (.int u), .val (.int (u &&& (7 : Int32))), .val (.ref wTANH), .val (.int (1 : Int32))] [(.int (1 : Int32))])) _
                  exact retN X22 hx (t := .boolean) Bd.returns (by simp) (hb hby at_39) hr
                · show own_Q_own_law Z u wSIN wCOS wTAN wCOT wSINH wCOSH wTANH wCOTH h0 n0 _ T22.heap _
                  rw [e22]
                  exact ⟨rfl, N22⟩
              · skip
                obtain ⟨_, _, ⟨T23, L23, k23, n23⟩, -, X23, ⟨Lc23, hQ23, l23, y23, z23⟩, st23⟩ := Jvm.LawKit.callS X0 hx (y := (⟨"com/example/longhand/longhand/trig/RatioOddPinLaw", "pick", "(I)Lcom/example/longhand/longhand/trig/Ratio;"⟩ : MethodName)) hown (mvT hZ (hw _ (List.mem_of_getElem? (i := 0) rfl))) (mvT hZ (hw _ (List.mem_of_getElem? (i := 1) rfl))) (mvT hZ (hw _ (List.mem_of_getElem? (i := 2) rfl))) (mvT hZ (hw _ (List.mem_of_getElem? (i := 3) rfl))) (by decide) (backOf (W := 0) (own_pick l Z a0 hw [] (u &&& (7 : Int32)) wSIN wCOS wTAN wCOT wSINH wCOSH wTANH wCOTH h0 n0 Z0 S_SIN S_COS S_TAN S_COT S_SINH S_COSH S_TANH S_COTH) hZ (hw _ (List.mem_of_getElem? (i := 3) rfl)) (hw _ (List.mem_of_getElem? (i := 2) rfl)) (by decide) (by decide)) (g := (mkF m 6 #[.val (.int u), .val (.int (u &&& (7 : Int32))), .unset, .unset] [(.int (u &&& (7 : Int32)))])) rfl (by rw [hml]; rfl) (argsL := [(.int (u &&& (7 : Int32)))]) (rest := []) (lenOf own_pd0 rfl) rfl (by show 2 * 0 + _ ≤ _; exact Nat.le_of_eq rfl) (hb hby at_6) (fun _ _ => ⟨rfl, e0, (by decide : 0 + 0 ≤ _), (by decide : 0 + 0 ≤ _)⟩)
                dsimp only [Pt.U, Pt.locs, Pt.cells, Pt.slots] at X23 l23 y23 z23 st23 hQ23
                subst l23 y23 z23
                obtain ⟨hv23, N23q, e23⟩ := hQ23
                simp [hc2, hc5, hc8, hc11, hc14, hc17, hc20] at hv23
                subst hv23
                have N23 := Fr.app N0 N23q
                obtain ⟨cq24, kq24, q24a, q24b, q24c⟩ := isOf hZ e23 E_wCOTH
                obtain ⟨_, _, ⟨T24, L24, k24, n24⟩, -, X24, ⟨Lc24, hQ24, l24, y24, z24⟩, st24⟩ := X23.virtualBack hx (y := (⟨"com/example/longhand/longhand/trig/Ratio", "odd", "()Z"⟩ : MethodName)) (z := (⟨"com/example/longhand/longhand/trig/Ratio", "odd", "()Z"⟩ : MethodName)) hown (mvT hZ (hw _ (List.mem_of_getElem? (i := 7) rfl))) (mvT hZ (hw _ (List.mem_of_getElem? (i := 8) rfl))) (notFace_of_selects (args := #[]) (mvT hZ (hw _ (List.mem_of_getElem? (i := 10) rfl)))) (mvT hZ (hw _ (List.mem_of_getElem? (i := 10) rfl))) (mvT hZ (hw _ (List.mem_of_getElem? (i := 9) rfl))) (by decide) (backOf (W := 0) (own_odd l Z a0 hw [] wCOTH (-1) h0 n0 Z0 F_wCOTH) hZ (hw _ (List.mem_of_getElem? (i := 11) rfl)) (hw _ (List.mem_of_getElem? (i := 5) rfl)) (by decide) (by decide)) q24a q24c (g := (mkF m 27 #[.val (.int u), .val (.int (u &&& (7 : Int32))), .val (.ref wCOTH), .val (.int (1 : Int32))] [(.ref wCOTH)])) rfl (by rw [hml]; rfl) (Steps.refl _) (argsL := []) (rest := []) (lenOf own_pd1 rfl) rfl (by show 2 * 0 + _ ≤ _; exact Nat.le_of_eq rfl) (hb hby at_27) (fun _ _ => ⟨rfl, e23, (by decide : 0 + 0 ≤ _), (by decide : 0 + 0 ≤ _)⟩)
                dsimp only [Pt.U, Pt.locs, Pt.cells, Pt.slots] at X24 l24 y24 z24 st24 hQ24
                subst l24 y24 z24
                obtain ⟨hv24, N24q, e24⟩ := hQ24
                simp at hv24
                subst hv24
                have N24 := Fr.app N23 N24q
                obtain ⟨fs, hr, hrun, hended, hW, hsame⟩ := X24.leave (v := some (.int (1 : Int32))) (fun h => by rw [Bd.returns] at h; cases h)
                refine ⟨_, _, pre1 _ ?_, hrun, hended, _, _, rfl, ?_, ⟨_, rfl⟩, hW, hsame.mono (by decide) (by decide)⟩
                · show Steps p.tables e below (s₁.setTop (mkF m 6 #[.val (.int u), .val (.int (u &&& (7 : Int32))), .unset, .unset] [(.int (u &&& (7 : Int32)))])) _
                  refine st23 _ ?_
                  show Steps p.tables e below (T23.setTop (mkF m 9 #[.val (.int u), .val (.int (u &&& (7 : Int32))), .unset, .unset] [(.ref wCOTH)])) _
                  refine XS.astoreN X23.here hx rfl (hb hby at_9) rfl rfl (l' := #[.val (.int u), .val (.int (u &&& (7 : Int32))), .val (.ref wCOTH), .unset]) rfl ?_
                  show Steps p.tables e below (T23.setTop (mkF m 10 #[.val (.int u), .val (.int (u &&& (7 : Int32))), .val (.ref wCOTH), .unset] [])) _
                  refine XS.iloadN X23.here hx rfl (hb hby at_10) rfl ?_
                  show Steps p.tables e below (T23.setTop (mkF m 11 #[.val (.int u), .val (.int (u &&& (7 : Int32))), .val (.ref wCOTH), .unset] [(.int (u &&& (7 : Int32)))])) _
                  refine XS.iconst X23.here hx rfl (hb hby at_11) ?_
                  show Steps p.tables e below (T23.setTop (mkF m 12 #[.val (.int u), .val (.int (u &&& (7 : Int32))), .val (.ref wCOTH), .unset] [(.int (1 : Int32)), (.int (u &&& (7 : Int32)))])) _
                  refine XS.icmpNo X23.here hx rfl (hb hby at_12) rfl (feq hc5).1 ?_
                  show Steps p.tables e below (T23.setTop (mkF m 15 #[.val (.int u), .val (.int (u &&& (7 : Int32))), .val (.ref wCOTH), .unset] [])) _
                  refine XS.iloadN X23.here hx rfl (hb hby at_15) rfl ?_
                  show Steps p.tables e below (T23.setTop (mkF m 16 #[.val (.int u), .val (.int (u &&& (7 : Int32))), .val (.ref wCOTH), .unset] [(.int (u &&& (7 : Int32)))])) _
                  refine XS.iconst X23.here hx rfl (hb hby at_16) ?_
                  show Steps p.tables e below (T23.setTop (mkF m 17 #[.val (.int u), .val (.int (u &&& (7 : Int32))), .val (.ref wCOTH), .unset] [(.int (5 : Int32)), (.int (u &&& (7 : Int32)))])) _
                  refine XS.icmpNo X23.here hx rfl (hb hby at_17) rfl (feq hc17).1 ?_
                  show Steps p.tables e below (T23.setTop (mkF m 20 #[.val (.int u), .val (.int (u &&& (7 : Int32))), .val (.ref wCOTH), .unset] [])) _
                  refine XS.iconst X23.here hx rfl (hb hby at_20) ?_
                  show Steps p.tables e below (T23.setTop (mkF m 21 #[.val (.int u), .val (.int (u &&& (7 : Int32))), .val (.ref wCOTH), .unset] [(.int (1 : Int32))])) _
                  refine XS.goto X23.here hx rfl (pc0 := 21) (pc' := 25) rfl (hb hby at_21) (by decide) (by decide) ?_
                  show Steps p.tables e below (T23.setTop (mkF m 25 #[.val (.int u), .val (.int (u &&& (7 : Int32))), .val (.ref wCOTH), .unset] [(.int (1 : Int32))])) _
                  refine XS.istoreN X23.here hx rfl (hb hby at_25) rfl (l' := #[.val (.int u), .val (.int (u &&& (7 : Int32))), .val (.ref wCOTH), .val (.int (1 : Int32))]) rfl ?_
                  show Steps p.tables e below (T23.setTop (mkF m 26 #[.val (.int u), .val (.int (u &&& (7 : Int32))), .val (.ref wCOTH), .val (.int (1 : Int32))] [])) _
                  refine XS.aloadN X23.here hx rfl (hb hby at_26) rfl rfl ?_
                  show Steps p.tables e below (T23.setTop (mkF m 27 #[.val (.int u), .val (.int (u &&& (7 : Int32))), .val (.ref wCOTH), .val (.int (1 : Int32))] [(.ref wCOTH)])) _
                  refine st24.trans ?_
                  show Steps p.tables e below (T24.setTop (mkF m 30 #[.val (.int u), .val (.int (u &&& (7 : Int32))), .val (.ref wCOTH), .val (.int (1 : Int32))] [(.int (1 : Int32))])) _
                  refine XS.iloadN X24.here hx rfl (hb hby at_30) rfl ?_
                  show Steps p.tables e below (T24.setTop (mkF m 31 #[.val (.int u), .val (.int (u &&& (7 : Int32))), .val (.ref wCOTH), .val (.int (1 : Int32))] [(.int (1 : Int32)), (.int (1 : Int32))])) _
                  refine XS.icmpNo X24.here hx rfl (hb hby at_31) rfl (teq (by decide : (1 : Int32) = (1 : Int32))).2 ?_
                  show Steps p.tables e below (T24.setTop (mkF m 34 #[.val (.int u), .val (.int (u &&& (7 : Int32))), .val (.ref wCOTH), .val (.int (1 : Int32))] [])) _
                  refine XS.iconst X24.here hx rfl (hb hby at_34) ?_
                  show Steps p.tables e below (T24.setTop (mkF m 35 #[.val (.int u), .val (.int (u &&& (7 : Int32))), .val (.ref wCOTH), .val (.int (1 : Int32))] [(.int (1 : Int32))])) _
                  refine XS.goto X24.here hx rfl (pc0 := 35) (pc' := 39) rfl (hb hby at_35) (by decide) (by decide) ?_
                  show Steps p.tables e below (T24.setTop (mkF m 39 #[.val (.int u), .val (.int (u &&& (7 : Int32))), .val (.ref wCOTH), .val (.int (1 : Int32))] [(.int (1 : Int32))])) _
                  exact retN X24 hx (t := .boolean) Bd.returns (by simp) (hb hby at_39) hr
                · show own_Q_own_law Z u wSIN wCOS wTAN wCOT wSINH wCOSH wTANH wCOTH h0 n0 _ T24.heap _
                  rw [e24]
                  exact ⟨rfl, N24⟩
set_option maxRecDepth 65536 in
set_option maxHeartbeats 40000000 in
theorem own_comes_1 {Post : Tables → Env → Array Value → State → Outcome → State → Prop} (hpost : ∀ tb e args s v u, (limb_1_1.after args s (.returned v) u = true ∧ limb_1_2.after args s (.returned v) u = true ∧ True) → FrameEnd s (.returned v) u (Jvm.fieldLocs frame_1_writes args s ++ Jvm.arrayLocs frame_1_arrays args s ++ Jvm.staticLocs frame_1_statics s) 0 0 → Post tb e args s (.returned v) u) :
    ArmFor flags0 classFile x code maxLocals ret World_1 tables_1 room_1 Calls_1 rest_1 Pre_1 Post := by
  intro l hfl _ _ p e ha hc hk s m args below hf hA hF happ hP
  obtain ⟨hcalls, hrest, hpre⟩ := hP
  obtain ⟨-, -, -, hnamed, -, -, -, hat⟩ := (Spec.applies_iff hf).mp happ
  obtain ⟨hg, hn⟩ := and_e (Cond.before_iff.mp (show (Jvm.Cond.and given_1 narrow_1).before args s = true from hpre))
  obtain ⟨g1, g2⟩ := and_e hg
  obtain ⟨g3, g4⟩ := and_e hn
  obtain ⟨g5, g6⟩ := and_e g4
  obtain ⟨g7, g8⟩ := and_e g6
  obtain ⟨g9, g10⟩ := and_e g8
  obtain ⟨g11, g12⟩ := and_e g10
  obtain ⟨g13, g14⟩ := and_e g12
  obtain ⟨g15, g16⟩ := and_e g14
  obtain ⟨g17, g18⟩ := and_e g16
  obtain ⟨g19, g20⟩ := and_e g18
  obtain ⟨g21, g22⟩ := and_e g20
  obtain ⟨g23, g24⟩ := and_e g22
  obtain ⟨g25, g26⟩ := and_e g24
  obtain ⟨g27, g28⟩ := and_e g26
  obtain ⟨g29, g30⟩ := and_e g28
  obtain ⟨g31, g32⟩ := and_e g30
  obtain ⟨w0, rfl⟩ : ∃ w0 : Value, args = #[w0] := by
    have hs : args.size = 1 := by simpa [Cond.value, given_1] using g1
    obtain ⟨L⟩ := args
    match L, hs with
    | [w0], _ => exact ⟨w0, rfl⟩
  have hw := fun d (hd : d ∈ tables_1) => atoms_spec (ws := Jvm.Cond.code x code maxLocals ret :: tables_1) hat d (List.mem_cons_of_mem _ hd)
  have hfit : Fit s := fun {y c} hc i hi => by
    obtain ⟨ha, rfl⟩ := Array.getElem?_eq_some_iff.mp hc
    have q := List.all_eq_true.mp ((Array.all_eq_true_iff_forall_mem.mp hF) _ (Array.getElem_mem ha)) i (List.mem_range.mpr hi)
    simpa [Array.getElem?_eq_getElem hi] using q
  obtain ⟨i0, ei0⟩ := is_v g2
  obtain rfl : w0 = (.int i0) := Option.some.inj ei0
  obtain ⟨wSIN, ev_wSIN⟩ := exa_v g3
  have S_SIN := Sta.start ev_wSIN (Or.inr ⟨(hw _ (List.mem_of_getElem? (i := 5) rfl)), (hw _ (List.mem_of_getElem? (i := 6) rfl))⟩)
  have E_wSIN := Exa.start ev_wSIN g3
  obtain ⟨wCOT, ev_wCOT⟩ := exa_v g7
  have S_COT := Sta.start ev_wCOT (Or.inr ⟨(hw _ (List.mem_of_getElem? (i := 5) rfl)), (hw _ (List.mem_of_getElem? (i := 15) rfl))⟩)
  have E_wCOT := Exa.start ev_wCOT g7
  obtain ⟨wTANH, ev_wTANH⟩ := exa_v g11
  have S_TANH := Sta.start ev_wTANH (Or.inr ⟨(hw _ (List.mem_of_getElem? (i := 5) rfl)), (hw _ (List.mem_of_getElem? (i := 17) rfl))⟩)
  have E_wTANH := Exa.start ev_wTANH g11
  obtain ⟨wCOTH, ev_wCOTH⟩ := exa_v g15
  have S_COTH := Sta.start ev_wCOTH (Or.inr ⟨(hw _ (List.mem_of_getElem? (i := 5) rfl)), (hw _ (List.mem_of_getElem? (i := 19) rfl))⟩)
  have E_wCOTH := Exa.start ev_wCOTH g15
  obtain ⟨wTAN, ev_wTAN⟩ := exa_v g19
  have S_TAN := Sta.start ev_wTAN (Or.inr ⟨(hw _ (List.mem_of_getElem? (i := 5) rfl)), (hw _ (List.mem_of_getElem? (i := 21) rfl))⟩)
  have E_wTAN := Exa.start ev_wTAN g19
  obtain ⟨wCOS, ev_wCOS⟩ := exa_v g23
  have S_COS := Sta.start ev_wCOS (Or.inr ⟨(hw _ (List.mem_of_getElem? (i := 5) rfl)), (hw _ (List.mem_of_getElem? (i := 23) rfl))⟩)
  have E_wCOS := Exa.start ev_wCOS g23
  obtain ⟨wSINH, ev_wSINH⟩ := exa_v g27
  have S_SINH := Sta.start ev_wSINH (Or.inr ⟨(hw _ (List.mem_of_getElem? (i := 5) rfl)), (hw _ (List.mem_of_getElem? (i := 25) rfl))⟩)
  have E_wSINH := Exa.start ev_wSINH g27
  obtain ⟨wCOSH, ev_wCOSH⟩ := exa_v g31
  have S_COSH := Sta.start ev_wCOSH (Or.inr ⟨(hw _ (List.mem_of_getElem? (i := 5) rfl)), (hw _ (List.mem_of_getElem? (i := 27) rfl))⟩)
  have E_wCOSH := Exa.start ev_wCOSH g31
  have F_wSIN_power := own_fldI ev_wSIN g5
  have F_wCOT_power := own_fldI ev_wCOT g9
  have F_wTANH_power := own_fldI ev_wTANH g13
  have F_wCOTH_power := own_fldI ev_wCOTH g17
  have F_wTAN_power := own_fldI ev_wTAN g21
  have F_wCOS_power := own_fldI ev_wCOS g25
  have F_wSINH_power := own_fldI ev_wSINH g29
  have F_wCOSH_power := own_fldI ev_wCOSH g32
  obtain ⟨n, o, h1, h2, h3, _, L, rfl, ⟨rfl, N⟩, hq⟩ := own_law l s _ hw tables_1 i0 wSIN wCOS wTAN wCOT wSINH wCOSH wTANH wCOTH s.heap s.heap.size (Nat.le_refl _) S_SIN S_COS S_TAN S_COT S_SINH S_COSH S_TANH S_COTH E_wSIN E_wCOS E_wTAN E_wCOT E_wSINH E_wCOSH E_wTANH E_wCOTH F_wSIN_power F_wCOS_power F_wTAN_power F_wCOT_power F_wSINH_power F_wCOSH_power F_wTANH_power F_wCOTH_power p e ha hc hk s m _ below hf ((Spec.applies_iff_loose hf).mp happ).1 ⟨rfl, State.Warmed39.refl s, rfl⟩ trivial
  refine ⟨n, _, h1, h2, h3, hpost _ _ _ _ _ _ ⟨Cond.after_iff.mpr rfl, Cond.after_iff.mpr (eq_i res_at (Term.int_eval (1)) rfl), trivial⟩ ⟨hq.1, hq.2.1, (hq.2.2.sift fun y hy => Or.inr (N y hy)).mono (by decide) (by decide)⟩⟩
theorem main_1_1 : Claimed_1_1 := own_comes_1 fun _ _ _ _ _ _ h hF => ⟨h.1, hF⟩
theorem main_1_2 : Claimed_1_2 := own_comes_1 fun _ _ _ _ _ _ h hF => ⟨h.2.1, hF⟩
end Jvm.Pilot.@@N@@
namespace Jvm.Pilot.@@N@@
open Jvm Jvm.ClassFile Sem Op Lib Jvm.Free Jvm.Stand Jvm.Pilot.@@N@@.Jvm.D
/-! MADE BY PROGRAM (witnessworld.py) out of the Statement's table words and the real class files: 12 classes; the members and pool entries that the words name. The judged class is class 1, her method 2. -/
namespace start1
open Jvm.ClassFile
def u (s : String) : CpInfo := .utf8 (stringToUtf16 s)
/-- a pool by its gaps: so many unusable entries, then the entry; so many at the end -/
def gap : Nat → List CpInfo → List CpInfo
  | 0, r => r
  | n + 1, r => .unusable :: gap n r
def poolList (es : List (Nat × CpInfo)) (last : Nat) : List CpInfo := es.foldr (fun e r => gap e.1 (e.2 :: r)) (gap last [])
def pool (es : List (Nat × CpInfo)) (last : Nat) : Array CpInfo := ⟨poolList es last⟩
def fileOf (pool : Array CpInfo) (this : Nat) (attrs : Array Attribute := #[]) (ms : Array MethodInfo := #[]) (fl : Nat := 33) (sup : Nat := 0) (ifs : Array Nat := #[]) (fds : Array FieldInfo := #[]) : ClassFile where
  minorVersion := 0
  majorVersion := 65
  constantPool := pool
  accessFlags := fl
  thisClass := this
  superClass := sup
  interfaces := ifs
  fields := fds
  methods := ms
  attributes := attrs
def plain (name : String) (sup : Option ClassId) : Class where
  name := name
  kind := .ordinary
  loader := none
  accessFlags := 33
  super := sup
  interfaces := #[]
  cf := none
  fields := #[]
  methods := #[]
  instanceTypes := #[]
  staticTypes := #[]
  resolved := #[]
  callSites := []
  init := .initialized
  statics := none
  mirror := none

def pool0 : Array CpInfo := pool [(5, u "<init>"), (0, u "()V"), (1, .class_ 10), (1, u "java/lang/Object")] 113

def k0m0 : Method := { name := "<init>", desc := "()V", sig := { parameters := [], returnType := none }, accessFlags := 1, code := none }
/-- java/lang/Object -/
def k0 : Class := { plain "java/lang/Object" none with
  accessFlags := 33
  interfaces := #[]
  cf := some (fileOf pool0 8 #[] #[{ accessFlags := 1, nameIndex := 5, descriptorIndex := 6, attributes := #[] }] 33 0 #[] #[])
  fields := #[]
  methods := #[k0m0]
  instanceTypes := #[]
  staticTypes := #[]
  resolved := Array.replicate 124 none
  statics := none }

def pool1 : Array CpInfo := pool [(2, .class_ 4), (1, u "java/lang/Object"), (0, u "<init>"), (0, u "()V"), (0, .fieldref 8 9), (0, .class_ 10), (0, .nameAndType 11 12), (0, u "com/example/longhand/longhand/trig/Ratio"), (0, u "SIN"), (0, u "Lcom/example/longhand/longhand/trig/Ratio;"), (0, .fieldref 8 14), (0, .nameAndType 15 12), (0, u "COS"), (0, .fieldref 8 17), (0, .nameAndType 18 12), (0, u "TAN"), (0, .fieldref 8 20), (0, .nameAndType 21 12), (0, u "COT"), (0, .fieldref 8 23), (0, .nameAndType 24 12), (0, u "SINH"), (0, .fieldref 8 26), (0, .nameAndType 27 12), (0, u "COSH"), (0, .fieldref 8 29), (0, .nameAndType 30 12), (0, u "TANH"), (0, .fieldref 8 32), (0, .nameAndType 33 12), (0, u "COTH"), (0, .methodref 35 36), (0, .class_ 37), (0, .nameAndType 38 39), (0, u "com/example/longhand/longhand/trig/RatioOddPinLaw"), (0, u "pick"), (0, u "(I)Lcom/example/longhand/longhand/trig/Ratio;"), (0, .methodref 8 41), (0, .nameAndType 42 43), (0, u "odd"), (0, u "()Z"), (3, u "law"), (0, u "(I)Z")] 2

def k1m0 : Method := { name := "<init>", desc := "()V", sig := { parameters := [], returnType := none }, accessFlags := 2, code := none }
def k1c1 : Code := { maxStack := 2, maxLocals := 1, code := method_2_code, exceptionTable := #[], attributes := #[] }
def k1m1 : Method := { name := "pick", desc := "(I)Lcom/example/longhand/longhand/trig/Ratio;", sig := { parameters := [.int], returnType := some (.object "com/example/longhand/longhand/trig/Ratio") }, accessFlags := 10, code := some k1c1 }
def k1c2 : Code := { maxStack := 2, maxLocals := 4, code := code, exceptionTable := #[], attributes := #[] }
def k1m2 : Method := { name := "law", desc := "(I)Z", sig := { parameters := [.int], returnType := some .boolean }, accessFlags := 9, code := some k1c2 }
/-- com/example/longhand/longhand/trig/RatioOddPinLaw -/
def k1 : Class := { plain "com/example/longhand/longhand/trig/RatioOddPinLaw" (some 0) with
  accessFlags := 49
  interfaces := #[]
  cf := some (fileOf pool1 35 #[] #[{ accessFlags := 2, nameIndex := 5, descriptorIndex := 6, attributes := #[] }, { accessFlags := 10, nameIndex := 38, descriptorIndex := 39, attributes := #[] }, { accessFlags := 9, nameIndex := 47, descriptorIndex := 48, attributes := #[] }] 49 2 #[] #[])
  fields := #[]
  methods := #[k1m0, k1m1, k1m2]
  instanceTypes := #[]
  staticTypes := #[]
  resolved := Array.replicate 51 none
  statics := none }

def pool2 : Array CpInfo := pool [(1, .class_ 2), (0, u "java/lang/constant/Constable"), (0, .class_ 4), (0, u "java/lang/Object")] 6

/-- java/lang/constant/Constable -/
def k2 : Class := { plain "java/lang/constant/Constable" (some 0) with
  accessFlags := 1537
  interfaces := #[]
  cf := some (fileOf pool2 1 #[] #[] 1537 3 #[] #[])
  fields := #[]
  methods := #[]
  instanceTypes := #[]
  staticTypes := #[]
  resolved := Array.replicate 11 none
  statics := none }

def pool3 : Array CpInfo := pool [(1, .class_ 2), (0, u "java/lang/Comparable"), (0, .class_ 4), (0, u "java/lang/Object")] 7

/-- java/lang/Comparable -/
def k3 : Class := { plain "java/lang/Comparable" (some 0) with
  accessFlags := 1537
  interfaces := #[]
  cf := some (fileOf pool3 1 #[] #[] 1537 3 #[] #[])
  fields := #[]
  methods := #[]
  instanceTypes := #[]
  staticTypes := #[]
  resolved := Array.replicate 12 none
  statics := none }

def pool4 : Array CpInfo := pool [(1, .class_ 2), (0, u "java/io/Serializable"), (0, .class_ 4), (0, u "java/lang/Object")] 2

/-- java/io/Serializable -/
def k4 : Class := { plain "java/io/Serializable" (some 0) with
  accessFlags := 1537
  interfaces := #[]
  cf := some (fileOf pool4 1 #[] #[] 1537 3 #[] #[])
  fields := #[]
  methods := #[]
  instanceTypes := #[]
  staticTypes := #[]
  resolved := Array.replicate 7 none
  statics := none }

def pool5 : Array CpInfo := pool [(2, .class_ 4), (1, u "java/lang/Enum"), (0, u "name"), (0, u "Ljava/lang/String;"), (2, u "ordinal"), (0, u "I"), (1, .class_ 14), (1, u "java/lang/Object"), (4, u "hash"), (86, .class_ 108), (1, u "java/lang/Enum$EnumDesc"), (2, .class_ 112), (0, u "java/lang/constant/Constable"), (0, .class_ 114), (0, u "java/lang/Comparable"), (0, .class_ 116), (0, u "java/io/Serializable")] 87

/-- java/lang/Enum -/
def k5 : Class := { plain "java/lang/Enum" (some 0) with
  accessFlags := 1057
  interfaces := #[2, 3, 4]
  cf := some (fileOf pool5 2 #[.nestMembers #[106]] #[] 1057 12 #[111, 113, 115] #[{ accessFlags := 18, nameIndex := 5, descriptorIndex := 6, attributes := #[] }, { accessFlags := 18, nameIndex := 9, descriptorIndex := 10, attributes := #[] }, { accessFlags := 2, nameIndex := 19, descriptorIndex := 10, attributes := #[] }])
  fields := #[{ name := "name", type := (.object "java/lang/String"), accessFlags := 18, slot := 0, constantValue := 0 }, { name := "ordinal", type := .int, accessFlags := 18, slot := 1, constantValue := 0 }, { name := "hash", type := .int, accessFlags := 2, slot := 2, constantValue := 0 }]
  methods := #[]
  instanceTypes := #[(.object "java/lang/String"), .int, .int]
  staticTypes := #[]
  resolved := Array.replicate 204 none
  statics := none }

def pool6 : Array CpInfo := pool [(1, .class_ 2), (0, u "com/example/longhand/longhand/trig/Ratio"), (2, u "SIN"), (0, u "Lcom/example/longhand/longhand/trig/Ratio;"), (2, u "COS"), (2, u "TAN"), (2, u "COT"), (2, u "SINH"), (2, u "COSH"), (2, u "TANH"), (2, u "COTH"), (2, u "$VALUES"), (0, u "[Lcom/example/longhand/longhand/trig/Ratio;"), (6, .class_ 40), (1, u "java/lang/Enum"), (8, u "function"), (0, u "Ljava/lang/String;"), (2, u "phase"), (0, u "I"), (2, u "quotient"), (0, u "Z"), (0, .fieldref 1 60), (0, .nameAndType 61 54), (0, u "power"), (2, u "inward"), (86, u "odd"), (0, u "()Z")] 28

def k6c0 : Code := { maxStack := 1, maxLocals := 1, code := prog_24_method_4_code, exceptionTable := #[], attributes := #[] }
def k6m0 : Method := { name := "odd", desc := "()Z", sig := { parameters := [], returnType := some .boolean }, accessFlags := 0, code := some k6c0 }
/-- com/example/longhand/longhand/trig/Ratio -/
def k6 : Class := { plain "com/example/longhand/longhand/trig/Ratio" (some 5) with
  accessFlags := 16432
  interfaces := #[]
  cf := some (fileOf pool6 1 #[] #[{ accessFlags := 0, nameIndex := 151, descriptorIndex := 152, attributes := #[] }] 16432 38 #[] #[{ accessFlags := 16409, nameIndex := 5, descriptorIndex := 6, attributes := #[] }, { accessFlags := 16409, nameIndex := 9, descriptorIndex := 6, attributes := #[] }, { accessFlags := 16409, nameIndex := 12, descriptorIndex := 6, attributes := #[] }, { accessFlags := 16409, nameIndex := 15, descriptorIndex := 6, attributes := #[] }, { accessFlags := 16409, nameIndex := 18, descriptorIndex := 6, attributes := #[] }, { accessFlags := 16409, nameIndex := 21, descriptorIndex := 6, attributes := #[] }, { accessFlags := 16409, nameIndex := 24, descriptorIndex := 6, attributes := #[] }, { accessFlags := 16409, nameIndex := 27, descriptorIndex := 6, attributes := #[] }, { accessFlags := 16, nameIndex := 49, descriptorIndex := 50, attributes := #[] }, { accessFlags := 16, nameIndex := 53, descriptorIndex := 54, attributes := #[] }, { accessFlags := 16, nameIndex := 57, descriptorIndex := 58, attributes := #[] }, { accessFlags := 16, nameIndex := 61, descriptorIndex := 54, attributes := #[] }, { accessFlags := 16, nameIndex := 64, descriptorIndex := 58, attributes := #[] }, { accessFlags := 4122, nameIndex := 30, descriptorIndex := 31, attributes := #[] }])
  fields := #[{ name := "SIN", type := (.object "com/example/longhand/longhand/trig/Ratio"), accessFlags := 16409, slot := 0, constantValue := 0 }, { name := "COS", type := (.object "com/example/longhand/longhand/trig/Ratio"), accessFlags := 16409, slot := 1, constantValue := 0 }, { name := "TAN", type := (.object "com/example/longhand/longhand/trig/Ratio"), accessFlags := 16409, slot := 2, constantValue := 0 }, { name := "COT", type := (.object "com/example/longhand/longhand/trig/Ratio"), accessFlags := 16409, slot := 3, constantValue := 0 }, { name := "SINH", type := (.object "com/example/longhand/longhand/trig/Ratio"), accessFlags := 16409, slot := 4, constantValue := 0 }, { name := "COSH", type := (.object "com/example/longhand/longhand/trig/Ratio"), accessFlags := 16409, slot := 5, constantValue := 0 }, { name := "TANH", type := (.object "com/example/longhand/longhand/trig/Ratio"), accessFlags := 16409, slot := 6, constantValue := 0 }, { name := "COTH", type := (.object "com/example/longhand/longhand/trig/Ratio"), accessFlags := 16409, slot := 7, constantValue := 0 }, { name := "function", type := (.object "java/lang/String"), accessFlags := 16, slot := 3, constantValue := 0 }, { name := "phase", type := .int, accessFlags := 16, slot := 4, constantValue := 0 }, { name := "quotient", type := .boolean, accessFlags := 16, slot := 5, constantValue := 0 }, { name := "power", type := .int, accessFlags := 16, slot := 6, constantValue := 0 }, { name := "inward", type := .boolean, accessFlags := 16, slot := 7, constantValue := 0 }, { name := "$VALUES", type := (.array (.object "com/example/longhand/longhand/trig/Ratio")), accessFlags := 4122, slot := 8, constantValue := 0 }]
  methods := #[k6m0]
  instanceTypes := #[(.object "java/lang/String"), .int, .int, (.object "java/lang/String"), .int, .boolean, .int, .boolean]
  staticTypes := #[(.object "com/example/longhand/longhand/trig/Ratio"), (.object "com/example/longhand/longhand/trig/Ratio"), (.object "com/example/longhand/longhand/trig/Ratio"), (.object "com/example/longhand/longhand/trig/Ratio"), (.object "com/example/longhand/longhand/trig/Ratio"), (.object "com/example/longhand/longhand/trig/Ratio"), (.object "com/example/longhand/longhand/trig/Ratio"), (.object "com/example/longhand/longhand/trig/Ratio"), (.array (.object "com/example/longhand/longhand/trig/Ratio"))]
  resolved := Array.replicate 181 none
  statics := some 0 }

def pool7 : Array CpInfo := pool [(1, u "java/lang/Cloneable"), (0, .class_ 1), (0, u "java/lang/Object"), (0, .class_ 3)] 3

/-- java/lang/Cloneable -/
def k7 : Class := { plain "java/lang/Cloneable" (some 0) with
  accessFlags := 1537
  interfaces := #[]
  cf := some (fileOf pool7 2 #[] #[] 1537 4 #[] #[])
  fields := #[]
  methods := #[]
  instanceTypes := #[]
  staticTypes := #[]
  resolved := Array.replicate 8 none
  statics := none }

/-- the primitive byte -/
def k8 : Class := { plain "byte" none with kind := .primitive 'B', accessFlags := 0x411 }
/-- [B -/
def k9 : Class := { plain "[B" (some 0) with kind := .array 8 .byte, interfaces := #[7, 4], accessFlags := 1041 }

/-- the primitive int -/
def k10 : Class := { plain "int" none with kind := .primitive 'I', accessFlags := 0x411 }
/-- [I -/
def k11 : Class := { plain "[I" (some 0) with kind := .array 10 .int, interfaces := #[7, 4], accessFlags := 1041 }

def heap : Heap := #[{ cls := 6, slots := #[.ref 1, .ref 2, .ref 3, .ref 4, .ref 5, .ref 6, .ref 7, .ref 8, .null], vm := .statics 6 },
  { cls := 6, slots := #[.null, .int 0, .int 0, .null, .int 0, .int 0, .int (1), .int 0], vm := .none },
  { cls := 6, slots := #[.null, .int 1, .int 0, .null, .int 0, .int 0, .int (0), .int 0], vm := .none },
  { cls := 6, slots := #[.null, .int 2, .int 0, .null, .int 0, .int 0, .int (1), .int 0], vm := .none },
  { cls := 6, slots := #[.null, .int 3, .int 0, .null, .int 0, .int 0, .int (-1), .int 0], vm := .none },
  { cls := 6, slots := #[.null, .int 4, .int 0, .null, .int 0, .int 0, .int (1), .int 0], vm := .none },
  { cls := 6, slots := #[.null, .int 5, .int 0, .null, .int 0, .int 0, .int (0), .int 0], vm := .none },
  { cls := 6, slots := #[.null, .int 6, .int 0, .null, .int 0, .int 0, .int (1), .int 0], vm := .none },
  { cls := 6, slots := #[.null, .int 7, .int 0, .null, .int 0, .int 0, .int (-1), .int 0], vm := .none }]
def classes : Array Class := #[k0, k1, k2, k3, k4, k5, k6, k7, k8, k9, k10, k11]
def interned : List (Array UInt16 × Addr) := []
def slotsUsed : Nat := 73
def theMethod : MethodId := ⟨1, 2⟩
def args0 : Array Value := #[.int 5]
def aboutOver (below : List Frame) : State where
  vm := { classes := classes, interned := interned.toArray }
  heap := heap
  slotsUsed := slotsUsed
  threads := #[{ frames := .invoking theMethod args0 :: below }]
def below0 : List Frame := [.native { method := ⟨0, 0⟩, args := #[] }]
def about1 : State := aboutOver below0
def p0 : Program := .bare "" "" ""
def e0 : Env := launch0.env 0 0 0
theorem w_frames : about1.frames = Frame.invoking theMethod args0 :: below0 := rfl
set_option maxRecDepth 65536 in
theorem w_args : argsFit about1.vm theMethod args0 = true := by decide +kernel
set_option maxRecDepth 65536 in
theorem w_heap : heapFits about1 = true := by decide +kernel
set_option maxRecDepth 65536 in
theorem w_runnable : about1.curStatus? = some .runnable := by decide +kernel
set_option maxRecDepth 65536 in
theorem w_alone : about1.alone = true := by decide +kernel
set_option maxRecDepth 65536 in
theorem w_named : about1.methodNamed? x = some theMethod := by decide +kernel
set_option maxRecDepth 65536 in
theorem w_hears : about1.hears theMethod below0 = true := by decide +kernel
set_option maxRecDepth 65536 in
theorem w_ripe : about1.ripe theMethod args0 below0 = true := by decide +kernel
theorem w_running : about1.status = .running := rfl
set_option maxRecDepth 65536 in
theorem w_room : about1.hasRoom e0.platform room_1 = true :=
  launch0.hasRoom_least _ room_1 (by decide +kernel) (by decide +kernel) (by decide +kernel) (by decide +kernel) (by decide +kernel) (by decide +kernel)
theorem allAtoms_all (ts : List Jvm.Cond) (a : Array Jvm.Value) (st : Jvm.State) : (allAtoms ts).before a st = ts.all (fun c => c.before a st) := by
  induction ts with
  | nil => rfl
  | cons c t ih =>
    show (Jvm.Cond.and c (allAtoms t)).before a st = _
    rw [Jvm.Cond.before_and, ih, List.all_cons]
def words1 : List Jvm.Cond := Jvm.Cond.code x code maxLocals ret :: tables_1
/-- a 'code' word, met by the world's own term for the bytes: nothing is compared byte by byte -/
theorem code_word {y : MethodName} {bytes : ByteArray} {mx : Nat} {rt : Option FieldType} {a : Array Value} {s : State} {m : MethodId} {meth : Method} {c : Code} (h1 : s.methodNamed? y = some m) (h2 : s.vm.method? m = some meth) (h3 : meth.code = some c) (h4 : c.code = bytes)
    (h5 : (c.maxLocals == mx && c.exceptionTable.isEmpty && decide (c.maxStack ≤ mostOperands) && decide (meth.sig.returnType = rt) && !meth.locks && decide (parseMethodDescriptor y.desc = some meth.sig)) = true) : (Jvm.Cond.code y bytes mx rt).before a s = true := by
  simp only [Bool.and_eq_true, beq_iff_eq, Bool.not_eq_true', decide_eq_true_eq] at h5
  obtain ⟨⟨⟨⟨⟨g1, g2⟩, g3⟩, g4⟩, g5⟩, g6⟩ := h5
  simp [Cond.before, Cond.holds, Cond.value, h1, h2, h3, h4, g1, g2, g3, g4, g5, g6]
def isCode : Jvm.Cond → Bool
  | .code _ _ _ _ => true
  | _ => false
theorem all_split {L : List Jvm.Cond} {P : Jvm.Cond → Bool} (h1 : L.all (fun c => isCode c || P c) = true) (h2 : ∀ c ∈ L.filter isCode, P c = true) : L.all P = true := by
  refine List.all_eq_true.mpr fun c hc => ?_
  have h := List.all_eq_true.mp h1 c hc
  rcases Bool.eq_false_or_eq_true (isCode c) with hi | hi
  · exact h2 c (List.mem_filter.mpr ⟨hc, hi⟩)
  · simpa [hi] using h
set_option maxRecDepth 65536 in
theorem w_c0 : (Jvm.Cond.code x code maxLocals ret).before args0 about1 = true := code_word (m := ⟨1, 2⟩) (meth := k1m2) (c := k1c2) (by decide +kernel) rfl rfl rfl (by decide +kernel)
set_option maxRecDepth 65536 in
theorem w_c1 : (Jvm.Cond.code ({ cls := "com/example/longhand/longhand/trig/RatioOddPinLaw", name := "pick", desc := "(I)Lcom/example/longhand/longhand/trig/Ratio;" } : Jvm.MethodName) method_2_code (1 : Nat) (Option.some (Jvm.ClassFile.FieldType.object "com/example/longhand/longhand/trig/Ratio"))).before args0 about1 = true := code_word (m := ⟨1, 1⟩) (meth := k1m1) (c := k1c1) (by decide +kernel) rfl rfl rfl (by decide +kernel)
set_option maxRecDepth 65536 in
theorem w_c2 : (Jvm.Cond.code ({ cls := "com/example/longhand/longhand/trig/Ratio", name := "odd", desc := "()Z" } : Jvm.MethodName) prog_24_method_4_code (1 : Nat) (Option.some Jvm.ClassFile.FieldType.boolean)).before args0 about1 = true := code_word (m := ⟨6, 0⟩) (meth := k6m0) (c := k6c0) (by decide +kernel) rfl rfl rfl (by decide +kernel)
def codes1 : List Jvm.Cond := [Jvm.Cond.code x code maxLocals ret, Jvm.Cond.code ({ cls := "com/example/longhand/longhand/trig/RatioOddPinLaw", name := "pick", desc := "(I)Lcom/example/longhand/longhand/trig/Ratio;" } : Jvm.MethodName) method_2_code (1 : Nat) (Option.some (Jvm.ClassFile.FieldType.object "com/example/longhand/longhand/trig/Ratio")), Jvm.Cond.code ({ cls := "com/example/longhand/longhand/trig/Ratio", name := "odd", desc := "()Z" } : Jvm.MethodName) prog_24_method_4_code (1 : Nat) (Option.some Jvm.ClassFile.FieldType.boolean)]
set_option maxRecDepth 65536 in
theorem codes_eq : words1.filter isCode = codes1 := rfl
theorem w_codes : ∀ c ∈ words1.filter isCode, c.before args0 about1 = true := by
  rw [codes_eq]
  intro c hc
  simp only [codes1, List.mem_cons, List.not_mem_nil, or_false] at hc
  rcases hc with rfl | rfl | rfl
  · exact w_c0
  · exact w_c1
  · exact w_c2
set_option maxRecDepth 65536 in
theorem w_t1 : (words1.take 24).all (fun c => isCode c || c.before args0 about1) = true := by decide +kernel
set_option maxRecDepth 65536 in
theorem w_t2 : (words1.drop 24).all (fun c => isCode c || c.before args0 about1) = true := by decide +kernel
theorem w_tables : (allAtoms (Jvm.Cond.code x code maxLocals ret :: tables_1)).before args0 about1 = true := by
  rw [allAtoms_all]
  show words1.all (fun c => c.before args0 about1) = true
  refine all_split ?_ w_codes
  rw [← List.take_append_drop 24 words1, List.all_append, w_t1, w_t2]
  rfl
set_option maxRecDepth 65536 in
theorem w_case : (Jvm.Cond.and given_1 narrow_1).before args0 about1 = true := by decide +kernel
theorem w_applies : (headSpec (Jvm.Cond.code x code maxLocals ret :: tables_1) room_1).applies x e0.platform about1 = true :=
  (Spec.applies_iff w_frames).mpr ⟨w_running, w_runnable, w_alone, w_named, w_hears, w_ripe, w_room, w_tables⟩
theorem atStart : AtStart classFile x code maxLocals ret World_1 tables_1 room_1 Calls_1 rest_1 Pre_1 launch0 p0 e0 about1 theMethod args0 below0 :=
  ⟨lists_1, trivial, launch0.admits_env _ _ _, launch0.least_env, fairChoices_fair.cas, fairChoices_fair.clock, w_frames, w_args, w_heap, w_applies, trivial, trivial, w_case⟩
end start1
theorem witness_1 : WitnessClaimed_1 := ⟨start1.p0, start1.e0, start1.about1, start1.theMethod, start1.args0, start1.below0, start1.atStart⟩
end Jvm.Pilot.@@N@@
