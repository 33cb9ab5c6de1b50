import JvmDerived
import JvmDerived.Pilot.@@N@@Statement
import JvmDerived.Pilot.@@N@@Code
set_option linter.unusedVariables false
set_option linter.unusedSimpArgs false
namespace Jvm.RoadKit
open Sem ClassFile Op Lib Jvm.Stand Jvm.Free Jvm.LawKit
section New
variable {p : Program} {l : Launch} {e : Env} {R : Room} {s : State} {m : MethodId} {args : Array Value} {below : List Frame} {meth : Method} {c : Code} {T : State} {locs : List Loc} {cells slots : Nat}
theorem retI (X : Stand p l e R s m args below meth c T locs cells slots) (hx : p.tables.exec = Jvm.exec) {pc : Nat} {Ls : Array Slot} {z : Int32} {rest : List Value} (hret : meth.sig.returnType = some .int) (hd : decode c.code pc = .ok (.ireturn, 1)) {fs : List Frame}
    (hl : ∀ (f : JFrame) (acts : List Action), f.method = m → f.locked = none → f.entered = [] → (doReturn e (T.setTop f) acts (some (.int z))).1 = T.setFrames fs) : Steps p.tables e below (T.setTop (mkF m pc Ls (.int z :: rest))) (T.setFrames fs) := by
  have hm' : T.vm.method? m = some meth := X.method'
  have hn : narrow .int (.int z) = .int z := rfl
  show Steps p.tables e below (T.setTop { method := m, pc := pc, locals := Ls, stack := _ :: rest, locked := none }) _
  jvm_step X.here [X.here.top, hx, hd, hm', hret, hn]
  first | (intro acts; rw [hl _ acts rfl rfl rfl]) | rw [hl _ _ rfl rfl rfl]
  exact Steps.refl _
end New
end Jvm.RoadKit
namespace Jvm.Pilot.@@N@@
open Jvm Jvm.ClassFile Sem Op Lib Jvm.Free Jvm.Stand Jvm.LawKit Jvm.RoadKit Bundle Jvm.Pilot.@@N@@.Jvm.D
theorem own_nb {P : Prop} [Decidable P] : nar .boolean (if P then (1 : Int32) else (0 : Int32)) = if P then (1 : Int32) else (0 : Int32) := by split <;> rfl
theorem own_nb2 {z : Int32} (h : z = 0 ∨ z = 1) : nar .boolean z = z := by rcases h with rfl | rfl <;> rfl
theorem own_01 {P : Prop} [Decidable P] : (if P then (1 : Int32) else (0 : Int32)) = 0 ∨ (if P then (1 : Int32) else (0 : Int32)) = 1 := by split <;> simp
theorem own_iv {a b : Int32} (h : a = b) : some (Value.int a) = some (Value.int b) := by rw [h]
theorem own_lv {a b : Int64} (h : a = b) : some (Value.long a) = some (Value.long b) := by rw [h]
def own_G : Nat → Int64 → Int64
  | 0, _ => 0
  | f + 1, q => if 0 < q then q + own_G f (q / 5) else 0
theorem own_G_succ (f : Nat) (q : Int64) : own_G (f + 1) q = if 0 < q then q + own_G f (q / 5) else 0 := rfl
theorem own_div5 (q : Int64) (h : 0 ≤ q.toInt) : (q / 5).toInt = q.toInt / 5 := (c_ldiv q 5 5 rfl (by decide)).1 h
theorem own_pos (q : Int64) : 0 < q ↔ 0 < q.toInt := by rw [Int64.lt_iff_toInt_lt]; rfl
theorem own_G_neg (f : Nat) (q : Int64) (h : ¬ 0 < q) : own_G f q = 0 := by
  cases f with
  | zero => rfl
  | succ f => rw [own_G_succ, if_neg h]
theorem own_G_same : ∀ (f g : Nat) (q : Int64), q.toInt < 5 ^ f → q.toInt < 5 ^ g → own_G f q = own_G g q := by
  intro f
  induction f with
  | zero => intro g q h1 h2; rw [own_G_neg g q (by rw [own_pos]; simp at h1; omega)]; rfl
  | succ f ih =>
    intro g q h1 h2
    by_cases hc : 0 < q
    · cases g with
      | zero => rw [own_pos] at hc; simp at h2; omega
      | succ g =>
        rw [own_G_succ, own_G_succ, if_pos hc, if_pos hc]
        have hq := (own_pos q).mp hc
        have e := own_div5 q (by omega)
        rw [ih g (q / 5) (by rw [e]; rw [Int.pow_succ] at h1; omega) (by rw [e]; rw [Int.pow_succ] at h2; omega)]
    · rw [own_G_neg _ _ hc, own_G_neg _ _ hc]
theorem own_big (q : Int64) : q.toInt < 5 ^ 63 := Int.lt_trans (rng64 q).2 (by decide)
theorem own_big4 (q : Int64) : q.toInt < 5 ^ 64 := Int.lt_trans (rng64 q).2 (by decide)
theorem own_step (n : Int64) (h : 0 ≤ n.toInt) : own_G 64 (n / 5) = n / 5 + own_G 64 (n / 5 / 5) := by
  have e := own_div5 n h
  by_cases hc : 0 < n / 5
  · rw [own_G_succ 63, if_pos hc, own_G_same 63 64 _ (own_big _) (own_big4 _)]
  · have : n / 5 = 0 := by rw [own_pos] at hc; have e2 : (0 : Int64).toInt = 0 := rfl; rw [← Int64.toInt_inj, e2]; omega
    rw [this]; rfl
theorem own_land (x : Int64) : 0 ≤ (x &&& (9223372036854775807 : Int64)).toInt := by
  rw [c_maskL x 9223372036854775807 63 (by decide) (by decide)]; omega
theorem own_small (k : Int32) : own_G 64 (((k &&& (2147483647 : Int32)) % (5 : Int32)).toInt64 / 5) = 0 := by
  have h0 : 0 ≤ (k &&& (2147483647 : Int32)).toInt := (c_and k 2147483647 (by decide)).1
  have h1 := (c_irem (k &&& (2147483647 : Int32)) 5 5 rfl).1 h0
  have h2 := c_i2l ((k &&& (2147483647 : Int32)) % (5 : Int32))
  have h3 : (((k &&& (2147483647 : Int32)) % (5 : Int32)).toInt64 / 5) = 0 := by
    have e2 : (0 : Int64).toInt = 0 := rfl
    rw [← Int64.toInt_inj, own_div5 _ (by omega), e2]; omega
  rw [h3]; rfl
theorem own_d1_0 : decode prog_17_method_6_code 0 = .ok (.lconst 0, 1) := by decide +kernel
theorem own_d1_1 : decode prog_17_method_6_code 1 = .ok (.lstore_n 2, 1) := by decide +kernel
theorem own_d1_2 : decode prog_17_method_6_code 2 = .ok (.lload_n 0, 1) := by decide +kernel
theorem own_d1_3 : decode prog_17_method_6_code 3 = .ok (.ldc2_w 65, 3) := by decide +kernel
theorem own_d1_6 : decode prog_17_method_6_code 6 = .ok (.ldiv, 1) := by decide +kernel
theorem own_d1_7 : decode prog_17_method_6_code 7 = .ok (.lstore 4, 2) := by decide +kernel
theorem own_d1_9 : decode prog_17_method_6_code 9 = .ok (.lload 4, 2) := by decide +kernel
theorem own_d1_11 : decode prog_17_method_6_code 11 = .ok (.lconst 0, 1) := by decide +kernel
theorem own_d1_12 : decode prog_17_method_6_code 12 = .ok (.lcmp, 1) := by decide +kernel
theorem own_d1_13 : decode prog_17_method_6_code 13 = .ok (.ifCond .le 19, 3) := by decide +kernel
theorem own_d1_16 : decode prog_17_method_6_code 16 = .ok (.lload_n 2, 1) := by decide +kernel
theorem own_d1_17 : decode prog_17_method_6_code 17 = .ok (.lload 4, 2) := by decide +kernel
theorem own_d1_19 : decode prog_17_method_6_code 19 = .ok (.ladd, 1) := by decide +kernel
theorem own_d1_20 : decode prog_17_method_6_code 20 = .ok (.lstore_n 2, 1) := by decide +kernel
theorem own_d1_21 : decode prog_17_method_6_code 21 = .ok (.lload 4, 2) := by decide +kernel
theorem own_d1_23 : decode prog_17_method_6_code 23 = .ok (.ldc2_w 65, 3) := by decide +kernel
theorem own_d1_26 : decode prog_17_method_6_code 26 = .ok (.ldiv, 1) := by decide +kernel
theorem own_d1_27 : decode prog_17_method_6_code 27 = .ok (.lstore 4, 2) := by decide +kernel
theorem own_d1_29 : decode prog_17_method_6_code 29 = .ok (.goto (-20), 3) := by decide +kernel
theorem own_d1_32 : decode prog_17_method_6_code 32 = .ok (.lload_n 2, 1) := by decide +kernel
theorem own_d1_33 : decode prog_17_method_6_code 33 = .ok (.lreturn, 1) := by decide +kernel
theorem own_pn0 : plainName "com/example/longhand/longhand/special/Factorial" = true := by first | (simp [plainName, overriddenIn]; done) | decide +kernel
theorem own_ef1 (m : MethodId) (x0 : Int64) : entryFrame m #[(.long x0)] 6 = mkF m 0 #[.val (.long x0), .second, .unset, .unset, .unset, .unset] [] := by first | (simp [entryFrame, mkF, argsToLocals, Value.category]; done) | rfl
def own_Q_own_tz (Z : State) (d : Int64) (h0 : Heap) (n0 : Nat) (v : Option Value) (h : Heap) (L : List Loc) : Prop := v = some (.long (own_G 64 (d / 5))) ∧ Fr n0 L ∧ h = h0
set_option maxRecDepth 65536 in
set_option maxHeartbeats 40000000 in
theorem own_tz (l : Launch) (Z : State) (a0 : Array Value) (hw : ∀ d ∈ tables_1, d.before a0 Z = true) (ws : List Jvm.Cond) (d : Int64) (h0 : Heap) (n0 : Nat) (Z0 : n0 ≤ h0.size) :
    MetFree l (⟨"com/example/longhand/longhand/special/Factorial", "trailingZeros", "(J)J"⟩ : MethodName) (head1 (Jvm.Cond.code (⟨"com/example/longhand/longhand/special/Factorial", "trailingZeros", "(J)J"⟩ : MethodName) prog_17_method_6_code 6 (some .long) :: ws) ({ frames := 0, cells := 0, slots := 0, locals := 0 } : Room)) (fun as_ U => as_ = #[(.long d)] ∧ Z.Warmed39 U.vm ∧ U.heap = h0) (fun _ _ _ _ _ => True) (fun _ U o U' => ∃ v L, o = .returned v ∧ own_Q_own_tz Z d h0 n0 v U'.heap L ∧ FrameEnd U o U' L ({ frames := 0, cells := 0, slots := 0, locals := 0 } : Room).cells ({ frames := 0, cells := 0, slots := 0, locals := 0 } : Room).slots) := by
  refine MetFree.of_bodySF (plainFor_of_name own_pn0) hisR ?_
  intro p e s m args below meth c s₁ Bd hml0 hP hK
  obtain ⟨rfl, hZ, hh⟩ := hP
  have hx := Bd.exec
  have hby := Bd.bytes
  have hml : c.maxLocals = 6 := hml0
  have hown : s.vm.findClass "com/example/longhand/longhand/special/Factorial" = some m.cls := findClass_of_methodNamed Bd.named
  have hnm := (name_of_methodNamed Bd.named Bd.method).1
  have X0 : Stand p l e ({ frames := 0, cells := 0, slots := 0, locals := 0 } : Room) s m #[(.long d)] below meth c s₁ [] 0 0 := Stand.of_body Bd
  have e0 : s₁.heap = h0 := by rw [← hh, Bd.state]; rfl
  have N0 := Fr.nil n0
  have pre0 : ∀ t, Steps p.tables e below (s₁.setTop (mkF m 0 #[.val (.long d), .second, .unset, .unset, .unset, .unset] [])) t → Steps p.tables e below (s₁.setTop (entryFrame m #[(.long d)] 6)) t := fun t k => castTop (own_ef1 m d) k
  have pre1 : ∀ t, Steps p.tables e below (s₁.setTop (mkF m 9 #[.val (.long d), .second, .val (.long (0 : Int64)), .second, .val (.long (d / (5 : Int64))), .second] [])) t → Steps p.tables e below (s₁.setTop (entryFrame m #[(.long d)] 6)) t := fun t k => pre0 t (by
    show Steps p.tables e below (s₁.setTop (mkF m 0 #[.val (.long d), .second, .unset, .unset, .unset, .unset] [])) _
    refine XS.lconst X0.here hx rfl (hb hby own_d1_0) ?_
    show Steps p.tables e below (s₁.setTop (mkF m 1 #[.val (.long d), .second, .unset, .unset, .unset, .unset] [(.long (0 : Int64))])) _
    refine XS.lstoreN X0.here hx rfl (hb hby own_d1_1) rfl (l' := #[.val (.long d), .second, .val (.long (0 : Int64)), .second, .unset, .unset]) rfl ?_
    show Steps p.tables e below (s₁.setTop (mkF m 2 #[.val (.long d), .second, .val (.long (0 : Int64)), .second, .unset, .unset] [])) _
    refine XS.lloadN X0.here hx rfl (hb hby own_d1_2) rfl ?_
    show Steps p.tables e below (s₁.setTop (mkF m 3 #[.val (.long d), .second, .val (.long (0 : Int64)), .second, .unset, .unset] [(.long d)])) _
    refine X0.ldc2Long hx hown (mvT hZ (hw _ (List.mem_of_getElem? (i := 7) rfl))) (g := (mkF m 3 #[.val (.long d), .second, .val (.long (0 : Int64)), .second, .unset, .unset] [(.long d)])) rfl (hb hby own_d1_3) _ ?_
    show Steps p.tables e below (s₁.setTop (mkF m 6 #[.val (.long d), .second, .val (.long (0 : Int64)), .second, .unset, .unset] [(.long (5 : Int64)), (.long d)])) _
    refine XS.ldiv X0.here hx rfl (hb hby own_d1_6) rfl (by decide) ?_
    show Steps p.tables e below (s₁.setTop (mkF m 7 #[.val (.long d), .second, .val (.long (0 : Int64)), .second, .unset, .unset] [(.long (d / (5 : Int64)))])) _
    refine XS.lstore X0.here hx rfl (hb hby own_d1_7) rfl (l' := #[.val (.long d), .second, .val (.long (0 : Int64)), .second, .val (.long (d / (5 : Int64))), .second]) rfl ?_
    exact k)
  have loop : ∀ (f : Nat) (z q : Int64), q.toInt < 5 ^ f → ∃ q', ∀ t, Steps p.tables e below (s₁.setTop (mkF m 32 #[.val (.long d), .second, .val (.long (z + own_G f q)), .second, .val (.long q'), .second] [])) t → Steps p.tables e below (s₁.setTop (mkF m 9 #[.val (.long d), .second, .val (.long z), .second, .val (.long q), .second] [])) t := by
    intro f
    induction f with
    | zero =>
      intro z q hq
      have hc : ¬ (0 : Int64) < q := by rw [own_pos]; simp at hq; omega
      rw [own_G_neg 0 q hc, show z + (0 : Int64) = z from by simp]
      refine ⟨q, fun t k => ?_⟩
      show Steps p.tables e below (s₁.setTop (mkF m 9 #[.val (.long d), .second, .val (.long z), .second, .val (.long q), .second] [])) _
      refine XS.lload X0.here hx rfl (hb hby own_d1_9) rfl ?_
      show Steps p.tables e below (s₁.setTop (mkF m 11 #[.val (.long d), .second, .val (.long z), .second, .val (.long q), .second] [(.long q)])) _
      refine XS.lconst X0.here hx rfl (hb hby own_d1_11) ?_
      show Steps p.tables e below (s₁.setTop (mkF m 12 #[.val (.long d), .second, .val (.long z), .second, .val (.long q), .second] [(.long (0 : Int64)), (.long q)])) _
      refine XS.lcmp X0.here hx rfl (hb hby own_d1_12) rfl ?_
      show Steps p.tables e below (s₁.setTop (mkF m 13 #[.val (.long d), .second, .val (.long z), .second, .val (.long q), .second] [(.int (lcmpW q (0 : Int64)))])) _
      refine XS.ifYes X0.here hx rfl (pc0 := 13) (pc' := 32) rfl (hb hby own_d1_13) rfl ((if0 _ _).trans (flt (fun q => hc ((lw_gt _ _).mp q))).2.2.2) (by decide) (by decide) ?_
      exact k
    | succ f ih =>
      intro z q hq
      by_cases hc : (0 : Int64) < q
      · have hp := (own_pos q).mp hc
        obtain ⟨q', ih'⟩ := ih (z + q) (q / 5) (by rw [own_div5 q (by omega)]; rw [Int.pow_succ] at hq; omega)
        refine ⟨q', fun t k => ?_⟩
        rw [own_G_succ, if_pos hc, ← Int64.add_assoc] at k
        show Steps p.tables e below (s₁.setTop (mkF m 9 #[.val (.long d), .second, .val (.long z), .second, .val (.long q), .second] [])) _
        refine XS.lload X0.here hx rfl (hb hby own_d1_9) rfl ?_
        show Steps p.tables e below (s₁.setTop (mkF m 11 #[.val (.long d), .second, .val (.long z), .second, .val (.long q), .second] [(.long q)])) _
        refine XS.lconst X0.here hx rfl (hb hby own_d1_11) ?_
        show Steps p.tables e below (s₁.setTop (mkF m 12 #[.val (.long d), .second, .val (.long z), .second, .val (.long q), .second] [(.long (0 : Int64)), (.long q)])) _
        refine XS.lcmp X0.here hx rfl (hb hby own_d1_12) rfl ?_
        show Steps p.tables e below (s₁.setTop (mkF m 13 #[.val (.long d), .second, .val (.long z), .second, .val (.long q), .second] [(.int (lcmpW q (0 : Int64)))])) _
        refine XS.ifNo X0.here hx rfl (hb hby own_d1_13) rfl ((if0 _ _).trans (tlt ((lw_gt _ _).mpr hc)).2.2.2) ?_
        show Steps p.tables e below (s₁.setTop (mkF m 16 #[.val (.long d), .second, .val (.long z), .second, .val (.long q), .second] [])) _
        refine XS.lloadN X0.here hx rfl (hb hby own_d1_16) rfl ?_
        show Steps p.tables e below (s₁.setTop (mkF m 17 #[.val (.long d), .second, .val (.long z), .second, .val (.long q), .second] [(.long z)])) _
        refine XS.lload X0.here hx rfl (hb hby own_d1_17) rfl ?_
        show Steps p.tables e below (s₁.setTop (mkF m 19 #[.val (.long d), .second, .val (.long z), .second, .val (.long q), .second] [(.long q), (.long z)])) _
        refine XS.ladd X0.here hx rfl (hb hby own_d1_19) rfl ?_
        show Steps p.tables e below (s₁.setTop (mkF m 20 #[.val (.long d), .second, .val (.long z), .second, .val (.long q), .second] [(.long (z + q))])) _
        refine XS.lstoreN X0.here hx rfl (hb hby own_d1_20) rfl (l' := #[.val (.long d), .second, .val (.long (z + q)), .second, .val (.long q), .second]) rfl ?_
        show Steps p.tables e below (s₁.setTop (mkF m 21 #[.val (.long d), .second, .val (.long (z + q)), .second, .val (.long q), .second] [])) _
        refine XS.lload X0.here hx rfl (hb hby own_d1_21) rfl ?_
        show Steps p.tables e below (s₁.setTop (mkF m 23 #[.val (.long d), .second, .val (.long (z + q)), .second, .val (.long q), .second] [(.long q)])) _
        refine X0.ldc2Long hx hown (mvT hZ (hw _ (List.mem_of_getElem? (i := 7) rfl))) (g := (mkF m 23 #[.val (.long d), .second, .val (.long (z + q)), .second, .val (.long q), .second] [(.long q)])) rfl (hb hby own_d1_23) _ ?_
        show Steps p.tables e below (s₁.setTop (mkF m 26 #[.val (.long d), .second, .val (.long (z + q)), .second, .val (.long q), .second] [(.long (5 : Int64)), (.long q)])) _
        refine XS.ldiv X0.here hx rfl (hb hby own_d1_26) rfl (by decide) ?_
        show Steps p.tables e below (s₁.setTop (mkF m 27 #[.val (.long d), .second, .val (.long (z + q)), .second, .val (.long q), .second] [(.long (q / (5 : Int64)))])) _
        refine XS.lstore X0.here hx rfl (hb hby own_d1_27) rfl (l' := #[.val (.long d), .second, .val (.long (z + q)), .second, .val (.long (q / (5 : Int64))), .second]) rfl ?_
        show Steps p.tables e below (s₁.setTop (mkF m 29 #[.val (.long d), .second, .val (.long (z + q)), .second, .val (.long (q / (5 : Int64))), .second] [])) _
        refine XS.goto X0.here hx rfl (pc0 := 29) (pc' := 9) rfl (hb hby own_d1_29) (by decide) (by decide) ?_
        exact ih' t k
      · refine ⟨q, fun t k => ?_⟩
        rw [own_G_neg _ _ hc, show z + (0 : Int64) = z from by simp] at k
        show Steps p.tables e below (s₁.setTop (mkF m 9 #[.val (.long d), .second, .val (.long z), .second, .val (.long q), .second] [])) _
        refine XS.lload X0.here hx rfl (hb hby own_d1_9) rfl ?_
        show Steps p.tables e below (s₁.setTop (mkF m 11 #[.val (.long d), .second, .val (.long z), .second, .val (.long q), .second] [(.long q)])) _
        refine XS.lconst X0.here hx rfl (hb hby own_d1_11) ?_
        show Steps p.tables e below (s₁.setTop (mkF m 12 #[.val (.long d), .second, .val (.long z), .second, .val (.long q), .second] [(.long (0 : Int64)), (.long q)])) _
        refine XS.lcmp X0.here hx rfl (hb hby own_d1_12) rfl ?_
        show Steps p.tables e below (s₁.setTop (mkF m 13 #[.val (.long d), .second, .val (.long z), .second, .val (.long q), .second] [(.int (lcmpW q (0 : Int64)))])) _
        refine XS.ifYes X0.here hx rfl (pc0 := 13) (pc' := 32) rfl (hb hby own_d1_13) rfl ((if0 _ _).trans (flt (fun q => hc ((lw_gt _ _).mp q))).2.2.2) (by decide) (by decide) ?_
        exact k
  obtain ⟨q', hloop⟩ := loop 64 (0 : Int64) (d / (5 : Int64)) (own_big4 _)
  have pre2 : ∀ t, Steps p.tables e below (s₁.setTop (mkF m 32 #[.val (.long d), .second, .val (.long ((0 : Int64) + own_G 64 (d / (5 : Int64)))), .second, .val (.long q'), .second] [])) t → Steps p.tables e below (s₁.setTop (entryFrame m #[(.long d)] 6)) t := fun t k => pre1 t (hloop t k)
  obtain ⟨fs, hr, hrun, hended, hW, hsame⟩ := X0.leave (v := some (.long ((0 : Int64) + own_G 64 (d / (5 : Int64))))) (fun h => by rw [Bd.returns] at h; cases h)
  refine ⟨_, _, pre2 _ ?_, hrun, hended, _, _, rfl, ?_, ⟨_, rfl⟩, hW, hsame.mono (by decide) (by decide)⟩
  · show Steps p.tables e below (s₁.setTop (mkF m 32 #[.val (.long d), .second, .val (.long ((0 : Int64) + own_G 64 (d / (5 : Int64)))), .second, .val (.long q'), .second] [])) _
    refine XS.lloadN X0.here hx rfl (hb hby own_d1_32) rfl ?_
    show Steps p.tables e below (s₁.setTop (mkF m 33 #[.val (.long d), .second, .val (.long ((0 : Int64) + own_G 64 (d / (5 : Int64)))), .second, .val (.long q'), .second] [(.long ((0 : Int64) + own_G 64 (d / (5 : Int64))))])) _
    exact retOut X0 hx (t := .long) Bd.returns rfl (Or.inr (Or.inl ⟨rfl, rfl, _, rfl⟩)) (hb hby own_d1_33) hr
  · show own_Q_own_tz Z d h0 n0 _ s₁.heap _
    rw [e0]
    exact ⟨own_lv (by simp), N0, rfl⟩
theorem own_pd0 : parseMethodDescriptor "(J)J" = some ⟨[.long], some .long⟩ := by decide +kernel
theorem own_pn1 : plainName "com/example/longhand/longhand/special/FactorialTrailingZerosPinLaw" = true := by first | (simp [plainName, overriddenIn]; done) | decide +kernel
theorem own_ef0 (m : MethodId) (x0 : Int64) (x1 : Int32) : entryFrame m #[(.long x0), (.int x1)] maxLocals = mkF m 0 #[.val (.long x0), .second, .val (.int x1), .unset, .unset, .unset, .unset, .unset, .unset, .unset] [] := by first | (simp [entryFrame, mkF, argsToLocals, Value.category, maxLocals]; done) | rfl
def own_Q_own_law (Z : State) (x1 : Int64) (x2 : Int32) (h0 : Heap) (n0 : Nat) (v : Option Value) (h : Heap) (L : List Loc) : Prop := v = some (.int 1) ∧ Fr n0 L
set_option maxRecDepth 65536 in
set_option maxHeartbeats 40000000 in
theorem own_law (l : Launch) (Z : State) (a0 : Array Value) (hw : ∀ d ∈ tables_1, d.before a0 Z = true) (ws : List Jvm.Cond) (x1 : Int64) (x2 : Int32) (h0 : Heap) (n0 : Nat) (Z0 : n0 ≤ h0.size) :
    MetFree l x (head1 (Jvm.Cond.code x code maxLocals ret :: ws) room_1) (fun as_ U => as_ = #[(.long x1), (.int x2)] ∧ Z.Warmed39 U.vm ∧ U.heap = h0) (fun _ _ _ _ _ => True) (fun _ U o U' => ∃ v L, o = .returned v ∧ own_Q_own_law Z x1 x2 h0 n0 v U'.heap L ∧ FrameEnd U o U' L room_1.cells room_1.slots) := by
  refine MetFree.of_bodySF (plainFor_of_name own_pn1) hisR ?_
  intro p e s m args below meth c s₁ Bd hml0 hP hK
  obtain ⟨rfl, hZ, hh⟩ := hP
  have hx := Bd.exec
  have hby := Bd.bytes
  have hml : c.maxLocals = 10 := hml0
  have hown : s.vm.findClass "com/example/longhand/longhand/special/FactorialTrailingZerosPinLaw" = some m.cls := findClass_of_methodNamed Bd.named
  have hnm := (name_of_methodNamed Bd.named Bd.method).1
  have X0 : Stand p l e room_1 s m #[(.long x1), (.int x2)] below meth c s₁ [] 0 0 := Stand.of_body Bd
  have e0 : s₁.heap = h0 := by rw [← hh, Bd.state]; rfl
  have N0 := Fr.nil n0
  have pre0 : ∀ t, Steps p.tables e below (s₁.setTop (mkF m 0 #[.val (.long x1), .second, .val (.int x2), .unset, .unset, .unset, .unset, .unset, .unset, .unset] [])) t → Steps p.tables e below (s₁.setTop (entryFrame m #[(.long x1), (.int x2)] maxLocals)) t := fun t k => castTop (own_ef0 m x1 x2) k
  obtain ⟨_, _, ⟨T1, L1, k1, n1⟩, -, X1, ⟨Lc1, hQ1, l1, y1, z1⟩, st1⟩ := Jvm.LawKit.callS X0 hx (y := (⟨"com/example/longhand/longhand/special/Factorial", "trailingZeros", "(J)J"⟩ : MethodName)) hown (mvT hZ (hw _ (List.mem_of_getElem? (i := 3) rfl))) (mvT hZ (hw _ (List.mem_of_getElem? (i := 4) rfl))) (mvT hZ (hw _ (List.mem_of_getElem? (i := 5) rfl))) (mvT hZ (hw _ (List.mem_of_getElem? (i := 6) rfl))) (by decide) (backOf (W := 0) (own_tz l Z a0 hw [] (((x2 &&& (2147483647 : Int32)) % (5 : Int32)).toInt64)  h0 n0 Z0 ) hZ (hw _ (List.mem_of_getElem? (i := 6) rfl)) (hw _ (List.mem_of_getElem? (i := 5) rfl)) (by decide) (by decide)) (g := (mkF m 24 #[.val (.long x1), .second, .val (.int x2), .val (.long (x1 &&& (9223372036854775807 : Int64))), .second, .val (.long ((x1 &&& (9223372036854775807 : Int64)) / (5 : Int64))), .second, .val (.int ((x2 &&& (2147483647 : Int32)) % (5 : Int32))), .unset, .unset] [(.long (((x2 &&& (2147483647 : Int32)) % (5 : Int32)).toInt64))])) rfl (by rw [hml]; rfl) (argsL := [(.long (((x2 &&& (2147483647 : Int32)) % (5 : Int32)).toInt64))]) (rest := []) (lenOf own_pd0 rfl) rfl (by show 2 * 0 + _ ≤ _; exact Nat.le_of_eq rfl) (hb hby at_24) (fun _ _ => ⟨rfl, e0, (by decide : 0 + 0 ≤ _), (by decide : 0 + 0 ≤ _)⟩)
  dsimp only [Pt.U, Pt.locs, Pt.cells, Pt.slots] at X1 l1 y1 z1 st1 hQ1
  subst l1 y1 z1
  obtain ⟨rfl, N1q, e1⟩ := hQ1
  have N1 := Fr.app N0 N1q
  obtain ⟨_, _, ⟨T2, L2, k2, n2⟩, -, X2, ⟨Lc2, hQ2, l2, y2, z2⟩, st2⟩ := Jvm.LawKit.callS X1 hx (y := (⟨"com/example/longhand/longhand/special/Factorial", "trailingZeros", "(J)J"⟩ : MethodName)) hown (mvT hZ (hw _ (List.mem_of_getElem? (i := 3) rfl))) (mvT hZ (hw _ (List.mem_of_getElem? (i := 4) rfl))) (mvT hZ (hw _ (List.mem_of_getElem? (i := 5) rfl))) (mvT hZ (hw _ (List.mem_of_getElem? (i := 6) rfl))) (by decide) (backOf (W := 0) (own_tz l Z a0 hw [] (x1 &&& (9223372036854775807 : Int64))  h0 n0 Z0 ) hZ (hw _ (List.mem_of_getElem? (i := 6) rfl)) (hw _ (List.mem_of_getElem? (i := 5) rfl)) (by decide) (by decide)) (g := (mkF m 40 #[.val (.long x1), .second, .val (.int x2), .val (.long (x1 &&& (9223372036854775807 : Int64))), .second, .val (.long ((x1 &&& (9223372036854775807 : Int64)) / (5 : Int64))), .second, .val (.int ((x2 &&& (2147483647 : Int32)) % (5 : Int32))), .val (.int (1 : Int32)), .unset] [(.long (x1 &&& (9223372036854775807 : Int64)))])) rfl (by rw [hml]; rfl) (argsL := [(.long (x1 &&& (9223372036854775807 : Int64)))]) (rest := []) (lenOf own_pd0 rfl) rfl (by show 2 * 0 + _ ≤ _; exact Nat.le_of_eq rfl) (hb hby at_40) (fun _ _ => ⟨rfl, e1, (by decide : 0 + 0 ≤ _), (by decide : 0 + 0 ≤ _)⟩)
  dsimp only [Pt.U, Pt.locs, Pt.cells, Pt.slots] at X2 l2 y2 z2 st2 hQ2
  subst l2 y2 z2
  obtain ⟨rfl, N2q, e2⟩ := hQ2
  have N2 := Fr.app N1 N2q
  obtain ⟨_, _, ⟨T3, L3, k3, n3⟩, -, X3, ⟨Lc3, hQ3, l3, y3, z3⟩, st3⟩ := Jvm.LawKit.callS X2 hx (y := (⟨"com/example/longhand/longhand/special/Factorial", "trailingZeros", "(J)J"⟩ : MethodName)) hown (mvT hZ (hw _ (List.mem_of_getElem? (i := 3) rfl))) (mvT hZ (hw _ (List.mem_of_getElem? (i := 4) rfl))) (mvT hZ (hw _ (List.mem_of_getElem? (i := 5) rfl))) (mvT hZ (hw _ (List.mem_of_getElem? (i := 6) rfl))) (by decide) (backOf (W := 4) (own_tz l Z a0 hw [] ((x1 &&& (9223372036854775807 : Int64)) / (5 : Int64))  h0 n0 Z0 ) hZ (hw _ (List.mem_of_getElem? (i := 6) rfl)) (hw _ (List.mem_of_getElem? (i := 5) rfl)) (by decide) (by decide)) (g := (mkF m 47 #[.val (.long x1), .second, .val (.int x2), .val (.long (x1 &&& (9223372036854775807 : Int64))), .second, .val (.long ((x1 &&& (9223372036854775807 : Int64)) / (5 : Int64))), .second, .val (.int ((x2 &&& (2147483647 : Int32)) % (5 : Int32))), .val (.int (1 : Int32)), .unset] [(.long ((x1 &&& (9223372036854775807 : Int64)) / (5 : Int64))), (.long ((x1 &&& (9223372036854775807 : Int64)) / (5 : Int64))), (.long (own_G 64 ((x1 &&& (9223372036854775807 : Int64)) / 5)))])) rfl (by rw [hml]; rfl) (argsL := [(.long ((x1 &&& (9223372036854775807 : Int64)) / (5 : Int64)))]) (rest := [(.long ((x1 &&& (9223372036854775807 : Int64)) / (5 : Int64))), (.long (own_G 64 ((x1 &&& (9223372036854775807 : Int64)) / 5)))]) (lenOf own_pd0 rfl) rfl (by show 2 * 0 + _ ≤ _; exact Nat.le_of_eq rfl) (hb hby at_47) (fun _ _ => ⟨rfl, e2, (by decide : 0 + 0 ≤ _), (by decide : 0 + 0 ≤ _)⟩)
  dsimp only [Pt.U, Pt.locs, Pt.cells, Pt.slots] at X3 l3 y3 z3 st3 hQ3
  subst l3 y3 z3
  obtain ⟨rfl, N3q, e3⟩ := hQ3
  have N3 := Fr.app N2 N3q
  obtain ⟨fs, hr, hrun, hended, hW, hsame⟩ := X3.leave (v := some (.int (1 : Int32))) (fun h => by rw [Bd.returns] at h; cases h)
  refine ⟨_, _, pre0 _ ?_, hrun, hended, _, _, rfl, ?_, ⟨_, rfl⟩, hW, hsame.mono (by decide) (by decide)⟩
  · show Steps p.tables e below (s₁.setTop (mkF m 0 #[.val (.long x1), .second, .val (.int x2), .unset, .unset, .unset, .unset, .unset, .unset, .unset] [])) _
    refine XS.lloadN X0.here hx rfl (hb hby at_0) rfl ?_
    show Steps p.tables e below (s₁.setTop (mkF m 1 #[.val (.long x1), .second, .val (.int x2), .unset, .unset, .unset, .unset, .unset, .unset, .unset] [(.long x1)])) _
    refine X0.ldc2Long hx hown (mvT hZ (hw _ (List.mem_of_getElem? (i := 0) rfl))) (g := (mkF m 1 #[.val (.long x1), .second, .val (.int x2), .unset, .unset, .unset, .unset, .unset, .unset, .unset] [(.long x1)])) rfl (hb hby at_1) _ ?_
    show Steps p.tables e below (s₁.setTop (mkF m 4 #[.val (.long x1), .second, .val (.int x2), .unset, .unset, .unset, .unset, .unset, .unset, .unset] [(.long (9223372036854775807 : Int64)), (.long x1)])) _
    refine XS.land X0.here hx rfl (hb hby at_4) rfl ?_
    show Steps p.tables e below (s₁.setTop (mkF m 5 #[.val (.long x1), .second, .val (.int x2), .unset, .unset, .unset, .unset, .unset, .unset, .unset] [(.long (x1 &&& (9223372036854775807 : Int64)))])) _
    refine XS.lstoreN X0.here hx rfl (hb hby at_5) rfl (l' := #[.val (.long x1), .second, .val (.int x2), .val (.long (x1 &&& (9223372036854775807 : Int64))), .second, .unset, .unset, .unset, .unset, .unset]) rfl ?_
    show Steps p.tables e below (s₁.setTop (mkF m 6 #[.val (.long x1), .second, .val (.int x2), .val (.long (x1 &&& (9223372036854775807 : Int64))), .second, .unset, .unset, .unset, .unset, .unset] [])) _
    refine XS.lloadN X0.here hx rfl (hb hby at_6) rfl ?_
    show Steps p.tables e below (s₁.setTop (mkF m 7 #[.val (.long x1), .second, .val (.int x2), .val (.long (x1 &&& (9223372036854775807 : Int64))), .second, .unset, .unset, .unset, .unset, .unset] [(.long (x1 &&& (9223372036854775807 : Int64)))])) _
    refine X0.ldc2Long hx hown (mvT hZ (hw _ (List.mem_of_getElem? (i := 1) rfl))) (g := (mkF m 7 #[.val (.long x1), .second, .val (.int x2), .val (.long (x1 &&& (9223372036854775807 : Int64))), .second, .unset, .unset, .unset, .unset, .unset] [(.long (x1 &&& (9223372036854775807 : Int64)))])) rfl (hb hby at_7) _ ?_
    show Steps p.tables e below (s₁.setTop (mkF m 10 #[.val (.long x1), .second, .val (.int x2), .val (.long (x1 &&& (9223372036854775807 : Int64))), .second, .unset, .unset, .unset, .unset, .unset] [(.long (5 : Int64)), (.long (x1 &&& (9223372036854775807 : Int64)))])) _
    refine XS.ldiv X0.here hx rfl (hb hby at_10) rfl (by decide) ?_
    show Steps p.tables e below (s₁.setTop (mkF m 11 #[.val (.long x1), .second, .val (.int x2), .val (.long (x1 &&& (9223372036854775807 : Int64))), .second, .unset, .unset, .unset, .unset, .unset] [(.long ((x1 &&& (9223372036854775807 : Int64)) / (5 : Int64)))])) _
    refine XS.lstore X0.here hx rfl (hb hby at_11) rfl (l' := #[.val (.long x1), .second, .val (.int x2), .val (.long (x1 &&& (9223372036854775807 : Int64))), .second, .val (.long ((x1 &&& (9223372036854775807 : Int64)) / (5 : Int64))), .second, .unset, .unset, .unset]) rfl ?_
    show Steps p.tables e below (s₁.setTop (mkF m 13 #[.val (.long x1), .second, .val (.int x2), .val (.long (x1 &&& (9223372036854775807 : Int64))), .second, .val (.long ((x1 &&& (9223372036854775807 : Int64)) / (5 : Int64))), .second, .unset, .unset, .unset] [])) _
    refine XS.iloadN X0.here hx rfl (hb hby at_13) rfl ?_
    show Steps p.tables e below (s₁.setTop (mkF m 14 #[.val (.long x1), .second, .val (.int x2), .val (.long (x1 &&& (9223372036854775807 : Int64))), .second, .val (.long ((x1 &&& (9223372036854775807 : Int64)) / (5 : Int64))), .second, .unset, .unset, .unset] [(.int x2)])) _
    refine X0.ldcInt hx hown (mvT hZ (hw _ (List.mem_of_getElem? (i := 2) rfl))) (g := (mkF m 14 #[.val (.long x1), .second, .val (.int x2), .val (.long (x1 &&& (9223372036854775807 : Int64))), .second, .val (.long ((x1 &&& (9223372036854775807 : Int64)) / (5 : Int64))), .second, .unset, .unset, .unset] [(.int x2)])) rfl (hb hby at_14) _ ?_
    show Steps p.tables e below (s₁.setTop (mkF m 16 #[.val (.long x1), .second, .val (.int x2), .val (.long (x1 &&& (9223372036854775807 : Int64))), .second, .val (.long ((x1 &&& (9223372036854775807 : Int64)) / (5 : Int64))), .second, .unset, .unset, .unset] [(.int (2147483647 : Int32)), (.int x2)])) _
    refine XS.iand X0.here hx rfl (hb hby at_16) rfl ?_
    show Steps p.tables e below (s₁.setTop (mkF m 17 #[.val (.long x1), .second, .val (.int x2), .val (.long (x1 &&& (9223372036854775807 : Int64))), .second, .val (.long ((x1 &&& (9223372036854775807 : Int64)) / (5 : Int64))), .second, .unset, .unset, .unset] [(.int (x2 &&& (2147483647 : Int32)))])) _
    refine XS.iconst X0.here hx rfl (hb hby at_17) ?_
    show Steps p.tables e below (s₁.setTop (mkF m 18 #[.val (.long x1), .second, .val (.int x2), .val (.long (x1 &&& (9223372036854775807 : Int64))), .second, .val (.long ((x1 &&& (9223372036854775807 : Int64)) / (5 : Int64))), .second, .unset, .unset, .unset] [(.int (5 : Int32)), (.int (x2 &&& (2147483647 : Int32)))])) _
    refine iremM X0 hx rfl (hb hby at_18) rfl (by decide) ?_
    show Steps p.tables e below (s₁.setTop (mkF m 19 #[.val (.long x1), .second, .val (.int x2), .val (.long (x1 &&& (9223372036854775807 : Int64))), .second, .val (.long ((x1 &&& (9223372036854775807 : Int64)) / (5 : Int64))), .second, .unset, .unset, .unset] [(.int ((x2 &&& (2147483647 : Int32)) % (5 : Int32)))])) _
    refine XS.istore X0.here hx rfl (hb hby at_19) rfl (l' := #[.val (.long x1), .second, .val (.int x2), .val (.long (x1 &&& (9223372036854775807 : Int64))), .second, .val (.long ((x1 &&& (9223372036854775807 : Int64)) / (5 : Int64))), .second, .val (.int ((x2 &&& (2147483647 : Int32)) % (5 : Int32))), .unset, .unset]) rfl ?_
    show Steps p.tables e below (s₁.setTop (mkF m 21 #[.val (.long x1), .second, .val (.int x2), .val (.long (x1 &&& (9223372036854775807 : Int64))), .second, .val (.long ((x1 &&& (9223372036854775807 : Int64)) / (5 : Int64))), .second, .val (.int ((x2 &&& (2147483647 : Int32)) % (5 : Int32))), .unset, .unset] [])) _
    refine XS.iload X0.here hx rfl (hb hby at_21) rfl ?_
    show Steps p.tables e below (s₁.setTop (mkF m 23 #[.val (.long x1), .second, .val (.int x2), .val (.long (x1 &&& (9223372036854775807 : Int64))), .second, .val (.long ((x1 &&& (9223372036854775807 : Int64)) / (5 : Int64))), .second, .val (.int ((x2 &&& (2147483647 : Int32)) % (5 : Int32))), .unset, .unset] [(.int ((x2 &&& (2147483647 : Int32)) % (5 : Int32)))])) _
    refine XS.i2l X0.here hx rfl (hb hby at_23) rfl ?_
    show Steps p.tables e below (s₁.setTop (mkF m 24 #[.val (.long x1), .second, .val (.int x2), .val (.long (x1 &&& (9223372036854775807 : Int64))), .second, .val (.long ((x1 &&& (9223372036854775807 : Int64)) / (5 : Int64))), .second, .val (.int ((x2 &&& (2147483647 : Int32)) % (5 : Int32))), .unset, .unset] [(.long (((x2 &&& (2147483647 : Int32)) % (5 : Int32)).toInt64))])) _
    refine st1 _ ?_
    show Steps p.tables e below (T1.setTop (mkF m 27 #[.val (.long x1), .second, .val (.int x2), .val (.long (x1 &&& (9223372036854775807 : Int64))), .second, .val (.long ((x1 &&& (9223372036854775807 : Int64)) / (5 : Int64))), .second, .val (.int ((x2 &&& (2147483647 : Int32)) % (5 : Int32))), .unset, .unset] [(.long (own_G 64 ((((x2 &&& (2147483647 : Int32)) % (5 : Int32)).toInt64) / 5)))])) _
    refine XS.lconst X1.here hx rfl (hb hby at_27) ?_
    show Steps p.tables e below (T1.setTop (mkF m 28 #[.val (.long x1), .second, .val (.int x2), .val (.long (x1 &&& (9223372036854775807 : Int64))), .second, .val (.long ((x1 &&& (9223372036854775807 : Int64)) / (5 : Int64))), .second, .val (.int ((x2 &&& (2147483647 : Int32)) % (5 : Int32))), .unset, .unset] [(.long (0 : Int64)), (.long (own_G 64 ((((x2 &&& (2147483647 : Int32)) % (5 : Int32)).toInt64) / 5)))])) _
    refine XS.lcmp X1.here hx rfl (hb hby at_28) rfl ?_
    show Steps p.tables e below (T1.setTop (mkF m 29 #[.val (.long x1), .second, .val (.int x2), .val (.long (x1 &&& (9223372036854775807 : Int64))), .second, .val (.long ((x1 &&& (9223372036854775807 : Int64)) / (5 : Int64))), .second, .val (.int ((x2 &&& (2147483647 : Int32)) % (5 : Int32))), .unset, .unset] [(.int (lcmpW (own_G 64 ((((x2 &&& (2147483647 : Int32)) % (5 : Int32)).toInt64) / 5)) (0 : Int64)))])) _
    refine XS.ifNo X1.here hx rfl (hb hby at_29) rfl ((if0 _ _).trans (teq ((lw_eq _ _).mpr (own_small _ : (own_G 64 ((((x2 &&& (2147483647 : Int32)) % (5 : Int32)).toInt64) / 5)) = (0 : Int64)))).2) ?_
    show Steps p.tables e below (T1.setTop (mkF m 32 #[.val (.long x1), .second, .val (.int x2), .val (.long (x1 &&& (9223372036854775807 : Int64))), .second, .val (.long ((x1 &&& (9223372036854775807 : Int64)) / (5 : Int64))), .second, .val (.int ((x2 &&& (2147483647 : Int32)) % (5 : Int32))), .unset, .unset] [])) _
    refine XS.iconst X1.here hx rfl (hb hby at_32) ?_
    show Steps p.tables e below (T1.setTop (mkF m 33 #[.val (.long x1), .second, .val (.int x2), .val (.long (x1 &&& (9223372036854775807 : Int64))), .second, .val (.long ((x1 &&& (9223372036854775807 : Int64)) / (5 : Int64))), .second, .val (.int ((x2 &&& (2147483647 : Int32)) % (5 : Int32))), .unset, .unset] [(.int (1 : Int32))])) _
    refine XS.goto X1.here hx rfl (pc0 := 33) (pc' := 37) rfl (hb hby at_33) (by decide) (by decide) ?_
    show Steps p.tables e below (T1.setTop (mkF m 37 #[.val (.long x1), .second, .val (.int x2), .val (.long (x1 &&& (9223372036854775807 : Int64))), .second, .val (.long ((x1 &&& (9223372036854775807 : Int64)) / (5 : Int64))), .second, .val (.int ((x2 &&& (2147483647 : Int32)) % (5 : Int32))), .unset, .unset] [(.int (1 : Int32))])) _
    refine XS.istore X1.here hx rfl (hb hby at_37) rfl (l' := #[.val (.long x1), .second, .val (.int x2), .val (.long (x1 &&& (9223372036854775807 : Int64))), .second, .val (.long ((x1 &&& (9223372036854775807 : Int64)) / (5 : Int64))), .second, .val (.int ((x2 &&& (2147483647 : Int32)) % (5 : Int32))), .val (.int (1 : Int32)), .unset]) rfl ?_
    show Steps p.tables e below (T1.setTop (mkF m 39 #[.val (.long x1), .second, .val (.int x2), .val (.long (x1 &&& (9223372036854775807 : Int64))), .second, .val (.long ((x1 &&& (9223372036854775807 : Int64)) / (5 : Int64))), .second, .val (.int ((x2 &&& (2147483647 : Int32)) % (5 : Int32))), .val (.int (1 : Int32)), .unset] [])) _
    refine XS.lloadN X1.here hx rfl (hb hby at_39) rfl ?_
    show Steps p.tables e below (T1.setTop (mkF m 40 #[.val (.long x1), .second, .val (.int x2), .val (.long (x1 &&& (9223372036854775807 : Int64))), .second, .val (.long ((x1 &&& (9223372036854775807 : Int64)) / (5 : Int64))), .second, .val (.int ((x2 &&& (2147483647 : Int32)) % (5 : Int32))), .val (.int (1 : Int32)), .unset] [(.long (x1 &&& (9223372036854775807 : Int64)))])) _
    refine st2 _ ?_
    show Steps p.tables e below (T2.setTop (mkF m 43 #[.val (.long x1), .second, .val (.int x2), .val (.long (x1 &&& (9223372036854775807 : Int64))), .second, .val (.long ((x1 &&& (9223372036854775807 : Int64)) / (5 : Int64))), .second, .val (.int ((x2 &&& (2147483647 : Int32)) % (5 : Int32))), .val (.int (1 : Int32)), .unset] [(.long (own_G 64 ((x1 &&& (9223372036854775807 : Int64)) / 5)))])) _
    refine XS.lload X2.here hx rfl (hb hby at_43) rfl ?_
    show Steps p.tables e below (T2.setTop (mkF m 45 #[.val (.long x1), .second, .val (.int x2), .val (.long (x1 &&& (9223372036854775807 : Int64))), .second, .val (.long ((x1 &&& (9223372036854775807 : Int64)) / (5 : Int64))), .second, .val (.int ((x2 &&& (2147483647 : Int32)) % (5 : Int32))), .val (.int (1 : Int32)), .unset] [(.long ((x1 &&& (9223372036854775807 : Int64)) / (5 : Int64))), (.long (own_G 64 ((x1 &&& (9223372036854775807 : Int64)) / 5)))])) _
    refine XS.lload X2.here hx rfl (hb hby at_45) rfl ?_
    show Steps p.tables e below (T2.setTop (mkF m 47 #[.val (.long x1), .second, .val (.int x2), .val (.long (x1 &&& (9223372036854775807 : Int64))), .second, .val (.long ((x1 &&& (9223372036854775807 : Int64)) / (5 : Int64))), .second, .val (.int ((x2 &&& (2147483647 : Int32)) % (5 : Int32))), .val (.int (1 : Int32)), .unset] [(.long ((x1 &&& (9223372036854775807 : Int64)) / (5 : Int64))), (.long ((x1 &&& (9223372036854775807 : Int64)) / (5 : Int64))), (.long (own_G 64 ((x1 &&& (9223372036854775807 : Int64)) / 5)))])) _
    refine st3 _ ?_
    show Steps p.tables e below (T3.setTop (mkF m 50 #[.val (.long x1), .second, .val (.int x2), .val (.long (x1 &&& (9223372036854775807 : Int64))), .second, .val (.long ((x1 &&& (9223372036854775807 : Int64)) / (5 : Int64))), .second, .val (.int ((x2 &&& (2147483647 : Int32)) % (5 : Int32))), .val (.int (1 : Int32)), .unset] [(.long (own_G 64 (((x1 &&& (9223372036854775807 : Int64)) / (5 : Int64)) / 5))), (.long ((x1 &&& (9223372036854775807 : Int64)) / (5 : Int64))), (.long (own_G 64 ((x1 &&& (9223372036854775807 : Int64)) / 5)))])) _
    refine XS.ladd X3.here hx rfl (hb hby at_50) rfl ?_
    show Steps p.tables e below (T3.setTop (mkF m 51 #[.val (.long x1), .second, .val (.int x2), .val (.long (x1 &&& (9223372036854775807 : Int64))), .second, .val (.long ((x1 &&& (9223372036854775807 : Int64)) / (5 : Int64))), .second, .val (.int ((x2 &&& (2147483647 : Int32)) % (5 : Int32))), .val (.int (1 : Int32)), .unset] [(.long (((x1 &&& (9223372036854775807 : Int64)) / (5 : Int64)) + (own_G 64 (((x1 &&& (9223372036854775807 : Int64)) / (5 : Int64)) / 5)))), (.long (own_G 64 ((x1 &&& (9223372036854775807 : Int64)) / 5)))])) _
    refine XS.lcmp X3.here hx rfl (hb hby at_51) rfl ?_
    show Steps p.tables e below (T3.setTop (mkF m 52 #[.val (.long x1), .second, .val (.int x2), .val (.long (x1 &&& (9223372036854775807 : Int64))), .second, .val (.long ((x1 &&& (9223372036854775807 : Int64)) / (5 : Int64))), .second, .val (.int ((x2 &&& (2147483647 : Int32)) % (5 : Int32))), .val (.int (1 : Int32)), .unset] [(.int (lcmpW (own_G 64 ((x1 &&& (9223372036854775807 : Int64)) / 5)) (((x1 &&& (9223372036854775807 : Int64)) / (5 : Int64)) + (own_G 64 (((x1 &&& (9223372036854775807 : Int64)) / (5 : Int64)) / 5)))))])) _
    refine XS.ifNo X3.here hx rfl (hb hby at_52) rfl ((if0 _ _).trans (teq ((lw_eq _ _).mpr (own_step _ (own_land _) : (own_G 64 ((x1 &&& (9223372036854775807 : Int64)) / 5)) = (((x1 &&& (9223372036854775807 : Int64)) / (5 : Int64)) + (own_G 64 (((x1 &&& (9223372036854775807 : Int64)) / (5 : Int64)) / 5)))))).2) ?_
    show Steps p.tables e below (T3.setTop (mkF m 55 #[.val (.long x1), .second, .val (.int x2), .val (.long (x1 &&& (9223372036854775807 : Int64))), .second, .val (.long ((x1 &&& (9223372036854775807 : Int64)) / (5 : Int64))), .second, .val (.int ((x2 &&& (2147483647 : Int32)) % (5 : Int32))), .val (.int (1 : Int32)), .unset] [])) _
    refine XS.iconst X3.here hx rfl (hb hby at_55) ?_
    show Steps p.tables e below (T3.setTop (mkF m 56 #[.val (.long x1), .second, .val (.int x2), .val (.long (x1 &&& (9223372036854775807 : Int64))), .second, .val (.long ((x1 &&& (9223372036854775807 : Int64)) / (5 : Int64))), .second, .val (.int ((x2 &&& (2147483647 : Int32)) % (5 : Int32))), .val (.int (1 : Int32)), .unset] [(.int (1 : Int32))])) _
    refine XS.goto X3.here hx rfl (pc0 := 56) (pc' := 60) rfl (hb hby at_56) (by decide) (by decide) ?_
    show Steps p.tables e below (T3.setTop (mkF m 60 #[.val (.long x1), .second, .val (.int x2), .val (.long (x1 &&& (9223372036854775807 : Int64))), .second, .val (.long ((x1 &&& (9223372036854775807 : Int64)) / (5 : Int64))), .second, .val (.int ((x2 &&& (2147483647 : Int32)) % (5 : Int32))), .val (.int (1 : Int32)), .unset] [(.int (1 : Int32))])) _
    refine XS.istore X3.here hx rfl (hb hby at_60) rfl (l' := #[.val (.long x1), .second, .val (.int x2), .val (.long (x1 &&& (9223372036854775807 : Int64))), .second, .val (.long ((x1 &&& (9223372036854775807 : Int64)) / (5 : Int64))), .second, .val (.int ((x2 &&& (2147483647 : Int32)) % (5 : Int32))), .val (.int (1 : Int32)), .val (.int (1 : Int32))]) rfl ?_
    show Steps p.tables e below (T3.setTop (mkF m 62 #[.val (.long x1), .second, .val (.int x2), .val (.long (x1 &&& (9223372036854775807 : Int64))), .second, .val (.long ((x1 &&& (9223372036854775807 : Int64)) / (5 : Int64))), .second, .val (.int ((x2 &&& (2147483647 : Int32)) % (5 : Int32))), .val (.int (1 : Int32)), .val (.int (1 : Int32))] [])) _
    refine XS.iload X3.here hx rfl (hb hby at_62) rfl ?_
    show Steps p.tables e below (T3.setTop (mkF m 64 #[.val (.long x1), .second, .val (.int x2), .val (.long (x1 &&& (9223372036854775807 : Int64))), .second, .val (.long ((x1 &&& (9223372036854775807 : Int64)) / (5 : Int64))), .second, .val (.int ((x2 &&& (2147483647 : Int32)) % (5 : Int32))), .val (.int (1 : Int32)), .val (.int (1 : Int32))] [(.int (1 : Int32))])) _
    refine XS.ifNo X3.here hx rfl (hb hby at_64) rfl ((if0 _ _).trans (feq (by decide : ¬ ((1 : Int32) = (0 : Int32)))).1) ?_
    show Steps p.tables e below (T3.setTop (mkF m 67 #[.val (.long x1), .second, .val (.int x2), .val (.long (x1 &&& (9223372036854775807 : Int64))), .second, .val (.long ((x1 &&& (9223372036854775807 : Int64)) / (5 : Int64))), .second, .val (.int ((x2 &&& (2147483647 : Int32)) % (5 : Int32))), .val (.int (1 : Int32)), .val (.int (1 : Int32))] [])) _
    refine XS.iload X3.here hx rfl (hb hby at_67) rfl ?_
    show Steps p.tables e below (T3.setTop (mkF m 69 #[.val (.long x1), .second, .val (.int x2), .val (.long (x1 &&& (9223372036854775807 : Int64))), .second, .val (.long ((x1 &&& (9223372036854775807 : Int64)) / (5 : Int64))), .second, .val (.int ((x2 &&& (2147483647 : Int32)) % (5 : Int32))), .val (.int (1 : Int32)), .val (.int (1 : Int32))] [(.int (1 : Int32))])) _
    refine XS.ifNo X3.here hx rfl (hb hby at_69) rfl ((if0 _ _).trans (feq (by decide : ¬ ((1 : Int32) = (0 : Int32)))).1) ?_
    show Steps p.tables e below (T3.setTop (mkF m 72 #[.val (.long x1), .second, .val (.int x2), .val (.long (x1 &&& (9223372036854775807 : Int64))), .second, .val (.long ((x1 &&& (9223372036854775807 : Int64)) / (5 : Int64))), .second, .val (.int ((x2 &&& (2147483647 : Int32)) % (5 : Int32))), .val (.int (1 : Int32)), .val (.int (1 : Int32))] [])) _
    refine XS.iconst X3.here hx rfl (hb hby at_72) ?_
    show Steps p.tables e below (T3.setTop (mkF m 73 #[.val (.long x1), .second, .val (.int x2), .val (.long (x1 &&& (9223372036854775807 : Int64))), .second, .val (.long ((x1 &&& (9223372036854775807 : Int64)) / (5 : Int64))), .second, .val (.int ((x2 &&& (2147483647 : Int32)) % (5 : Int32))), .val (.int (1 : Int32)), .val (.int (1 : Int32))] [(.int (1 : Int32))])) _
    refine XS.goto X3.here hx rfl (pc0 := 73) (pc' := 77) rfl (hb hby at_73) (by decide) (by decide) ?_
    show Steps p.tables e below (T3.setTop (mkF m 77 #[.val (.long x1), .second, .val (.int x2), .val (.long (x1 &&& (9223372036854775807 : Int64))), .second, .val (.long ((x1 &&& (9223372036854775807 : Int64)) / (5 : Int64))), .second, .val (.int ((x2 &&& (2147483647 : Int32)) % (5 : Int32))), .val (.int (1 : Int32)), .val (.int (1 : Int32))] [(.int (1 : Int32))])) _
    exact retN X3 hx (t := .boolean) Bd.returns (by simp) (hb hby at_77) hr
  · show own_Q_own_law Z x1 x2 h0 n0 _ T3.heap _
    rw [e3]
    exact ⟨rfl, N3⟩
set_option maxRecDepth 65536 in
set_option maxHeartbeats 40000000 in
theorem own_comes_1 {Post : Tables → Env → Array Value → State → Outcome → State → Prop} (hpost : ∀ tb e args s v u, (limb_1_1.after args s (.returned v) u = true ∧ limb_1_2.after args s (.returned v) u = true ∧ True) → FrameEnd s (.returned v) u (Jvm.fieldLocs frame_1_writes args s ++ Jvm.arrayLocs frame_1_arrays args s ++ Jvm.staticLocs frame_1_statics s) 0 0 → Post tb e args s (.returned v) u) :
    ArmFor flags0 classFile x code maxLocals ret World_1 tables_1 room_1 Calls_1 rest_1 Pre_1 Post := by
  intro l hfl _ _ p e ha hc hk s m args below hf hA hF happ hP
  obtain ⟨hcalls, hrest, hpre⟩ := hP
  obtain ⟨-, -, -, hnamed, -, -, -, hat⟩ := (Spec.applies_iff hf).mp happ
  obtain ⟨hg, hn⟩ := and_e (Cond.before_iff.mp (show (Jvm.Cond.and given_1 narrow_1).before args s = true from hpre))
  obtain ⟨g1, g2⟩ := and_e hg
  obtain ⟨g3, g4⟩ := and_e g2
  obtain ⟨w0, w1, rfl⟩ : ∃ w0 w1 : Value, args = #[w0, w1] := by
    have hs : args.size = 2 := by simpa [Cond.value, given_1] using g1
    obtain ⟨L⟩ := args
    match L, hs with
    | [w0, w1], _ => exact ⟨w0, w1, rfl⟩
  have hw := fun d (hd : d ∈ tables_1) => atoms_spec (ws := Jvm.Cond.code x code maxLocals ret :: tables_1) hat d (List.mem_cons_of_mem _ hd)
  have hfit : Fit s := fun {y c} hc i hi => by
    obtain ⟨ha, rfl⟩ := Array.getElem?_eq_some_iff.mp hc
    have q := List.all_eq_true.mp ((Array.all_eq_true_iff_forall_mem.mp hF) _ (Array.getElem_mem ha)) i (List.mem_range.mpr hi)
    simpa [Array.getElem?_eq_getElem hi] using q
  obtain ⟨i0, ei0⟩ := isL_v g3
  obtain rfl : w0 = (.long i0) := Option.some.inj ei0
  obtain ⟨i1, ei1⟩ := is_v g4
  obtain rfl : w1 = (.int i1) := Option.some.inj ei1
  obtain ⟨n, o, h1, h2, h3, _, L, rfl, ⟨rfl, N⟩, hq⟩ := own_law l s _ hw tables_1 i0 i1  s.heap s.heap.size (Nat.le_refl _)  p e ha hc hk s m _ below hf ((Spec.applies_iff_loose hf).mp happ).1 ⟨rfl, State.Warmed39.refl s, rfl⟩ trivial
  refine ⟨n, _, h1, h2, h3, hpost _ _ _ _ _ _ ⟨Cond.after_iff.mpr rfl, Cond.after_iff.mpr (eq_i res_at (Term.int_eval (1)) rfl), trivial⟩ ⟨hq.1, hq.2.1, (hq.2.2.sift fun y hy => Or.inr (N y hy)).mono (by decide) (by decide)⟩⟩
theorem main_1_1 : Claimed_1_1 := own_comes_1 fun _ _ _ _ _ _ h hF => ⟨h.1, hF⟩
theorem main_1_2 : Claimed_1_2 := own_comes_1 fun _ _ _ _ _ _ h hF => ⟨h.2.1, hF⟩
end Jvm.Pilot.@@N@@
namespace Jvm.Pilot.@@N@@
open Jvm Jvm.ClassFile Sem Op Lib Jvm.Free Jvm.Stand Jvm.Pilot.@@N@@.Jvm.D
/-! MADE BY PROGRAM (witnessworld.py) out of the Statement's table words and the real class files: 9 classes; the members and pool entries that the words name. The judged class is class 1, her method 1. -/
namespace start1
open Jvm.ClassFile
def u (s : String) : CpInfo := .utf8 (stringToUtf16 s)
/-- a pool by its gaps: so many unusable entries, then the entry; so many at the end -/
def gap : Nat → List CpInfo → List CpInfo
  | 0, r => r
  | n + 1, r => .unusable :: gap n r
def poolList (es : List (Nat × CpInfo)) (last : Nat) : List CpInfo := es.foldr (fun e r => gap e.1 (e.2 :: r)) (gap last [])
def pool (es : List (Nat × CpInfo)) (last : Nat) : Array CpInfo := ⟨poolList es last⟩
def fileOf (pool : Array CpInfo) (this : Nat) (attrs : Array Attribute := #[]) (ms : Array MethodInfo := #[]) (fl : Nat := 33) (sup : Nat := 0) (ifs : Array Nat := #[]) (fds : Array FieldInfo := #[]) : ClassFile where
  minorVersion := 0
  majorVersion := 65
  constantPool := pool
  accessFlags := fl
  thisClass := this
  superClass := sup
  interfaces := ifs
  fields := fds
  methods := ms
  attributes := attrs
def plain (name : String) (sup : Option ClassId) : Class where
  name := name
  kind := .ordinary
  loader := none
  accessFlags := 33
  super := sup
  interfaces := #[]
  cf := none
  fields := #[]
  methods := #[]
  instanceTypes := #[]
  staticTypes := #[]
  resolved := #[]
  callSites := []
  init := .initialized
  statics := none
  mirror := none

def pool0 : Array CpInfo := pool [(5, u "<init>"), (0, u "()V"), (1, .class_ 10), (1, u "java/lang/Object")] 113

def k0m0 : Method := { name := "<init>", desc := "()V", sig := { parameters := [], returnType := none }, accessFlags := 1, code := none }
/-- java/lang/Object -/
def k0 : Class := { plain "java/lang/Object" none with
  accessFlags := 33
  interfaces := #[]
  cf := some (fileOf pool0 8 #[] #[{ accessFlags := 1, nameIndex := 5, descriptorIndex := 6, attributes := #[] }] 33 0 #[] #[])
  fields := #[]
  methods := #[k0m0]
  instanceTypes := #[]
  staticTypes := #[]
  resolved := Array.replicate 124 none
  statics := none }

def pool1 : Array CpInfo := pool [(2, .class_ 4), (1, u "java/lang/Object"), (0, u "<init>"), (0, u "()V"), (2, .long 9223372036854775807), (1, .long 5), (1, .integer 2147483647), (0, .methodref 15 16), (0, .class_ 17), (0, .nameAndType 18 19), (0, u "com/example/longhand/longhand/special/Factorial"), (0, u "trailingZeros"), (0, u "(J)J"), (0, .class_ 21), (0, u "com/example/longhand/longhand/special/FactorialTrailingZerosPinLaw"), (2, u "law"), (0, u "(JI)Z")] 3

def k1m0 : Method := { name := "<init>", desc := "()V", sig := { parameters := [], returnType := none }, accessFlags := 1, code := none }
def k1c1 : Code := { maxStack := 6, maxLocals := 10, code := code, exceptionTable := #[], attributes := #[] }
def k1m1 : Method := { name := "law", desc := "(JI)Z", sig := { parameters := [.long, .int], returnType := some .boolean }, accessFlags := 9, code := some k1c1 }
/-- com/example/longhand/longhand/special/FactorialTrailingZerosPinLaw -/
def k1 : Class := { plain "com/example/longhand/longhand/special/FactorialTrailingZerosPinLaw" (some 0) with
  accessFlags := 49
  interfaces := #[]
  cf := some (fileOf pool1 20 #[] #[{ accessFlags := 1, nameIndex := 5, descriptorIndex := 6, attributes := #[] }, { accessFlags := 9, nameIndex := 24, descriptorIndex := 25, attributes := #[] }] 49 2 #[] #[])
  fields := #[]
  methods := #[k1m0, k1m1]
  instanceTypes := #[]
  staticTypes := #[]
  resolved := Array.replicate 29 none
  statics := none }

def pool2 : Array CpInfo := pool [(2, .class_ 4), (1, u "java/lang/Object"), (0, u "<init>"), (0, u "()V"), (1, .class_ 10), (1, u "com/example/longhand/longhand/special/Factorial"), (18, u "trailingZeros"), (0, u "(J)J"), (23, u "LOG10_E"), (0, u "D"), (2, u "HALF_LOG10_TWO_PI"), (6, .long 5), (38, u "MAX_ARGUMENT"), (0, u "I"), (1, u "LEAF_FACTORS"), (1, u "STIRLING_FROM")] 28

def k2m0 : Method := { name := "<init>", desc := "()V", sig := { parameters := [], returnType := none }, accessFlags := 2, code := none }
def k2c1 : Code := { maxStack := 4, maxLocals := 6, code := prog_17_method_6_code, exceptionTable := #[], attributes := #[] }
def k2m1 : Method := { name := "trailingZeros", desc := "(J)J", sig := { parameters := [.long], returnType := some .long }, accessFlags := 8, code := some k2c1 }
/-- com/example/longhand/longhand/special/Factorial -/
def k2 : Class := { plain "com/example/longhand/longhand/special/Factorial" (some 0) with
  accessFlags := 33
  interfaces := #[]
  cf := some (fileOf pool2 8 #[] #[{ accessFlags := 2, nameIndex := 5, descriptorIndex := 6, attributes := #[] }, { accessFlags := 8, nameIndex := 29, descriptorIndex := 30, attributes := #[] }] 33 2 #[] #[{ accessFlags := 24, nameIndex := 104, descriptorIndex := 105, attributes := #[] }, { accessFlags := 26, nameIndex := 107, descriptorIndex := 105, attributes := #[] }, { accessFlags := 26, nameIndex := 109, descriptorIndex := 105, attributes := #[] }, { accessFlags := 26, nameIndex := 54, descriptorIndex := 55, attributes := #[] }, { accessFlags := 26, nameIndex := 58, descriptorIndex := 55, attributes := #[] }])
  fields := #[{ name := "MAX_ARGUMENT", type := .int, accessFlags := 24, slot := 0, constantValue := 0 }, { name := "LEAF_FACTORS", type := .int, accessFlags := 26, slot := 1, constantValue := 0 }, { name := "STIRLING_FROM", type := .int, accessFlags := 26, slot := 2, constantValue := 0 }, { name := "LOG10_E", type := .double, accessFlags := 26, slot := 3, constantValue := 0 }, { name := "HALF_LOG10_TWO_PI", type := .double, accessFlags := 26, slot := 4, constantValue := 0 }]
  methods := #[k2m0, k2m1]
  instanceTypes := #[]
  staticTypes := #[.int, .int, .int, .double, .double]
  resolved := Array.replicate 138 none
  statics := none }

def pool3 : Array CpInfo := pool [(1, u "java/lang/Cloneable"), (0, .class_ 1), (0, u "java/lang/Object"), (0, .class_ 3)] 3

/-- java/lang/Cloneable -/
def k3 : Class := { plain "java/lang/Cloneable" (some 0) with
  accessFlags := 1537
  interfaces := #[]
  cf := some (fileOf pool3 2 #[] #[] 1537 4 #[] #[])
  fields := #[]
  methods := #[]
  instanceTypes := #[]
  staticTypes := #[]
  resolved := Array.replicate 8 none
  statics := none }

def pool4 : Array CpInfo := pool [(1, u "java/io/Serializable"), (0, .class_ 1), (0, u "java/lang/Object"), (0, .class_ 3)] 3

/-- java/io/Serializable -/
def k4 : Class := { plain "java/io/Serializable" (some 0) with
  accessFlags := 1537
  interfaces := #[]
  cf := some (fileOf pool4 2 #[] #[] 1537 4 #[] #[])
  fields := #[]
  methods := #[]
  instanceTypes := #[]
  staticTypes := #[]
  resolved := Array.replicate 8 none
  statics := none }

/-- the primitive byte -/
def k5 : Class := { plain "byte" none with kind := .primitive 'B', accessFlags := 0x411 }
/-- [B -/
def k6 : Class := { plain "[B" (some 0) with kind := .array 5 .byte, interfaces := #[3, 4], accessFlags := 1041 }

/-- the primitive int -/
def k7 : Class := { plain "int" none with kind := .primitive 'I', accessFlags := 0x411 }
/-- [I -/
def k8 : Class := { plain "[I" (some 0) with kind := .array 7 .int, interfaces := #[3, 4], accessFlags := 1041 }

def heap : Heap := #[]
def classes : Array Class := #[k0, k1, k2, k3, k4, k5, k6, k7, k8]
def interned : List (Array UInt16 × Addr) := []
def slotsUsed : Nat := 0
def theMethod : MethodId := ⟨1, 1⟩
def args0 : Array Value := #[.long 77, .int 9]
def aboutOver (below : List Frame) : State where
  vm := { classes := classes, interned := interned.toArray }
  heap := heap
  slotsUsed := slotsUsed
  threads := #[{ frames := .invoking theMethod args0 :: below }]
def below0 : List Frame := [.native { method := ⟨0, 0⟩, args := #[] }]
def about1 : State := aboutOver below0
def p0 : Program := .bare "" "" ""
def e0 : Env := launch0.env 0 0 0
theorem w_frames : about1.frames = Frame.invoking theMethod args0 :: below0 := rfl
set_option maxRecDepth 65536 in
theorem w_args : argsFit about1.vm theMethod args0 = true := by decide +kernel
set_option maxRecDepth 65536 in
theorem w_heap : heapFits about1 = true := by decide +kernel
set_option maxRecDepth 65536 in
theorem w_runnable : about1.curStatus? = some .runnable := by decide +kernel
set_option maxRecDepth 65536 in
theorem w_alone : about1.alone = true := by decide +kernel
set_option maxRecDepth 65536 in
theorem w_named : about1.methodNamed? x = some theMethod := by decide +kernel
set_option maxRecDepth 65536 in
theorem w_hears : about1.hears theMethod below0 = true := by decide +kernel
set_option maxRecDepth 65536 in
theorem w_ripe : about1.ripe theMethod args0 below0 = true := by decide +kernel
theorem w_running : about1.status = .running := rfl
set_option maxRecDepth 65536 in
theorem w_room : about1.hasRoom e0.platform room_1 = true :=
  launch0.hasRoom_least _ room_1 (by decide +kernel) (by decide +kernel) (by decide +kernel) (by decide +kernel) (by decide +kernel) (by decide +kernel)
theorem allAtoms_all (ts : List Jvm.Cond) (a : Array Jvm.Value) (st : Jvm.State) : (allAtoms ts).before a st = ts.all (fun c => c.before a st) := by
  induction ts with
  | nil => rfl
  | cons c t ih =>
    show (Jvm.Cond.and c (allAtoms t)).before a st = _
    rw [Jvm.Cond.before_and, ih, List.all_cons]
def words1 : List Jvm.Cond := Jvm.Cond.code x code maxLocals ret :: tables_1
/-- a 'code' word, met by the world's own term for the bytes: nothing is compared byte by byte -/
theorem code_word {y : MethodName} {bytes : ByteArray} {mx : Nat} {rt : Option FieldType} {a : Array Value} {s : State} {m : MethodId} {meth : Method} {c : Code} (h1 : s.methodNamed? y = some m) (h2 : s.vm.method? m = some meth) (h3 : meth.code = some c) (h4 : c.code = bytes)
    (h5 : (c.maxLocals == mx && c.exceptionTable.isEmpty && decide (c.maxStack ≤ mostOperands) && decide (meth.sig.returnType = rt) && !meth.locks && decide (parseMethodDescriptor y.desc = some meth.sig)) = true) : (Jvm.Cond.code y bytes mx rt).before a s = true := by
  simp only [Bool.and_eq_true, beq_iff_eq, Bool.not_eq_true', decide_eq_true_eq] at h5
  obtain ⟨⟨⟨⟨⟨g1, g2⟩, g3⟩, g4⟩, g5⟩, g6⟩ := h5
  simp [Cond.before, Cond.holds, Cond.value, h1, h2, h3, h4, g1, g2, g3, g4, g5, g6]
def isCode : Jvm.Cond → Bool
  | .code _ _ _ _ => true
  | _ => false
theorem all_split {L : List Jvm.Cond} {P : Jvm.Cond → Bool} (h1 : L.all (fun c => isCode c || P c) = true) (h2 : ∀ c ∈ L.filter isCode, P c = true) : L.all P = true := by
  refine List.all_eq_true.mpr fun c hc => ?_
  have h := List.all_eq_true.mp h1 c hc
  rcases Bool.eq_false_or_eq_true (isCode c) with hi | hi
  · exact h2 c (List.mem_filter.mpr ⟨hc, hi⟩)
  · simpa [hi] using h
set_option maxRecDepth 65536 in
theorem w_c0 : (Jvm.Cond.code x code maxLocals ret).before args0 about1 = true := code_word (m := ⟨1, 1⟩) (meth := k1m1) (c := k1c1) (by decide +kernel) rfl rfl rfl (by decide +kernel)
set_option maxRecDepth 65536 in
theorem w_c1 : (Jvm.Cond.code ({ cls := "com/example/longhand/longhand/special/Factorial", name := "trailingZeros", desc := "(J)J" } : Jvm.MethodName) prog_17_method_6_code (6 : Nat) (Option.some Jvm.ClassFile.FieldType.long)).before args0 about1 = true := code_word (m := ⟨2, 1⟩) (meth := k2m1) (c := k2c1) (by decide +kernel) rfl rfl rfl (by decide +kernel)
def codes1 : List Jvm.Cond := [Jvm.Cond.code x code maxLocals ret, Jvm.Cond.code ({ cls := "com/example/longhand/longhand/special/Factorial", name := "trailingZeros", desc := "(J)J" } : Jvm.MethodName) prog_17_method_6_code (6 : Nat) (Option.some Jvm.ClassFile.FieldType.long)]
set_option maxRecDepth 65536 in
theorem codes_eq : words1.filter isCode = codes1 := rfl
theorem w_codes : ∀ c ∈ words1.filter isCode, c.before args0 about1 = true := by
  rw [codes_eq]
  intro c hc
  simp only [codes1, List.mem_cons, List.not_mem_nil, or_false] at hc
  rcases hc with rfl | rfl
  · exact w_c0
  · exact w_c1
set_option maxRecDepth 65536 in
theorem w_t1 : words1.all (fun c => isCode c || c.before args0 about1) = true := by decide +kernel
theorem w_tables : (allAtoms (Jvm.Cond.code x code maxLocals ret :: tables_1)).before args0 about1 = true := by
  rw [allAtoms_all]
  show words1.all (fun c => c.before args0 about1) = true
  refine all_split ?_ w_codes
  rw [w_t1]
set_option maxRecDepth 65536 in
theorem w_case : (Jvm.Cond.and given_1 narrow_1).before args0 about1 = true := by decide +kernel
theorem w_applies : (headSpec (Jvm.Cond.code x code maxLocals ret :: tables_1) room_1).applies x e0.platform about1 = true :=
  (Spec.applies_iff w_frames).mpr ⟨w_running, w_runnable, w_alone, w_named, w_hears, w_ripe, w_room, w_tables⟩
theorem atStart : AtStart classFile x code maxLocals ret World_1 tables_1 room_1 Calls_1 rest_1 Pre_1 launch0 p0 e0 about1 theMethod args0 below0 :=
  ⟨lists_1, trivial, launch0.admits_env _ _ _, launch0.least_env, fairChoices_fair.cas, fairChoices_fair.clock, w_frames, w_args, w_heap, w_applies, trivial, trivial, w_case⟩
end start1
theorem witness_1 : WitnessClaimed_1 := ⟨start1.p0, start1.e0, start1.about1, start1.theMethod, start1.args0, start1.below0, start1.atStart⟩
end Jvm.Pilot.@@N@@
