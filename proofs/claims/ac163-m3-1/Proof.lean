import JvmDerived
import JvmDerived.Pilot.@@N@@Statement
import JvmDerived.Pilot.@@N@@Code
set_option linter.unusedVariables false
set_option linter.unusedSimpArgs false
namespace Jvm.RoadKit
open Sem ClassFile Op Lib Jvm.Stand Jvm.Free Jvm.LawKit
section New
variable {p : Program} {l : Launch} {e : Env} {R : Room} {s : State} {m : MethodId} {args : Array Value} {below : List Frame} {meth : Method} {c : Code} {T : State} {locs : List Loc} {cells slots : Nat}
theorem retI (X : Stand p l e R s m args below meth c T locs cells slots) (hx : p.tables.exec = Jvm.exec) {pc : Nat} {Ls : Array Slot} {z : Int32} {rest : List Value} (hret : meth.sig.returnType = some .int) (hd : decode c.code pc = .ok (.ireturn, 1)) {fs : List Frame}
    (hl : ∀ (f : JFrame) (acts : List Action), f.method = m → f.locked = none → f.entered = [] → (doReturn e (T.setTop f) acts (some (.int z))).1 = T.setFrames fs) : Steps p.tables e below (T.setTop (mkF m pc Ls (.int z :: rest))) (T.setFrames fs) := by
  have hm' : T.vm.method? m = some meth := X.method'
  have hn : narrow .int (.int z) = .int z := rfl
  show Steps p.tables e below (T.setTop { method := m, pc := pc, locals := Ls, stack := _ :: rest, locked := none }) _
  jvm_step X.here [X.here.top, hx, hd, hm', hret, hn]
  first | (intro acts; rw [hl _ acts rfl rfl rfl]) | rw [hl _ _ rfl rfl rfl]
  exact Steps.refl _
end New
end Jvm.RoadKit
namespace Jvm.Pilot.@@N@@
open Jvm Jvm.ClassFile Sem Op Lib Jvm.Free Jvm.Stand Jvm.LawKit Jvm.RoadKit Bundle Jvm.Pilot.@@N@@.Jvm.D
theorem own_nb {P : Prop} [Decidable P] : nar .boolean (if P then (1 : Int32) else (0 : Int32)) = if P then (1 : Int32) else (0 : Int32) := by split <;> rfl
theorem own_nb2 {z : Int32} (h : z = 0 ∨ z = 1) : nar .boolean z = z := by rcases h with rfl | rfl <;> rfl
theorem own_01 {P : Prop} [Decidable P] : (if P then (1 : Int32) else (0 : Int32)) = 0 ∨ (if P then (1 : Int32) else (0 : Int32)) = 1 := by split <;> simp
theorem own_iv {a b : Int32} (h : a = b) : some (Value.int a) = some (Value.int b) := by rw [h]
theorem own_lv {a b : Int64} (h : a = b) : some (Value.long a) = some (Value.long b) := by rw [h]
theorem own_land (x : Int64) : 0 ≤ (x &&& (9223372036854775807 : Int64)).toInt := by
  rw [c_maskL x 9223372036854775807 63 (by decide) (by decide)]; omega
theorem own_m1 (b : Int64) (h : 0 ≤ b.toInt) (h2 : ¬ (b = (9223372036854775807 : Int64))) : (b + (1 : Int64)).toInt = b.toInt + 1 := by
  have h3 := c_ladd b 1
  have h4 := rng64 (b + 1)
  have h5 := rng64 b
  rw [← Int64.toInt_inj] at h2
  have h6 : (9223372036854775807 : Int64).toInt = 9223372036854775807 := rfl
  have h7 : (1 : Int64).toInt = 1 := rfl
  omega
theorem own_ne0 (b : Int64) (h : 0 ≤ b.toInt) (h2 : ¬ (b = (9223372036854775807 : Int64))) : b + (1 : Int64) ≠ (0 : Int64) := by
  have h3 := own_m1 b h h2
  intro q
  rw [q] at h3
  have h7 : (0 : Int64).toInt = 0 := rfl
  omega
theorem own_rem (x b : Int64) (h : 0 ≤ b.toInt) (h2 : ¬ (b = (9223372036854775807 : Int64))) : 0 ≤ ((x &&& (9223372036854775807 : Int64)) % (b + (1 : Int64))).toInt ∧ ((x &&& (9223372036854775807 : Int64)) % (b + (1 : Int64))).toInt ≤ b.toInt := by
  have h0 := own_land x
  have h1 := (c_lrem (x &&& (9223372036854775807 : Int64)) (b + 1) _ (own_m1 b h h2)).1 h0
  rw [lrem_mod] at h1
  rw [h1]
  have h3 := Int.emod_nonneg (x &&& (9223372036854775807 : Int64)).toInt (show b.toInt + 1 ≠ 0 by omega)
  have h4 := Int.emod_lt_of_pos (x &&& (9223372036854775807 : Int64)).toInt (show 0 < b.toInt + 1 by omega)
  omega
theorem own_all (x b : Int64) (h2 : b = (9223372036854775807 : Int64)) : 0 ≤ (x &&& (9223372036854775807 : Int64)).toInt ∧ (x &&& (9223372036854775807 : Int64)).toInt ≤ b.toInt := by
  have h4 := rng64 (x &&& (9223372036854775807 : Int64))
  have h6 : (9223372036854775807 : Int64).toInt = 9223372036854775807 := rfl
  rw [h2, h6]
  exact ⟨own_land x, by omega⟩
theorem own_z : (0 : Int64).toInt = 0 := rfl
theorem own_sub {a b : Int64} (h1 : 0 ≤ b.toInt) (h2 : b.toInt ≤ a.toInt) : (a - b).toInt = a.toInt - b.toInt := by
  have h3 := c_lsub a b
  have h4 := rng64 (a - b)
  have h5 := rng64 a
  have h6 := rng64 b
  omega
theorem own_add {a b : Int64} (h1 : 0 ≤ a.toInt) (h2 : 0 ≤ b.toInt) (h : a.toInt + b.toInt < 9223372036854775808) : (a + b).toInt = a.toInt + b.toInt := by
  have h3 := c_ladd a b
  have h4 := rng64 (a + b)
  omega
theorem own_B {c u : Int64} (h : 0 ≤ u.toInt ∧ u.toInt ≤ c.toInt) : ¬ ((c - (0 : Int64)) < u) := by
  rw [Int64.lt_iff_toInt_lt, own_sub (by rw [own_z]; omega) (by rw [own_z]; omega), own_z]; omega
theorem own_E {u : Int64} (h : 0 ≤ u.toInt) : (if (0 : Int64) < u then u else (0 : Int64)) = u := by
  split
  · rfl
  · rename_i q
    rw [Int64.lt_iff_toInt_lt, own_z] at q
    rw [← Int64.toInt_inj, own_z]; omega
theorem own_F {c u : Int64} (h : 0 ≤ u.toInt) (h' : u.toInt ≤ c.toInt) : 0 ≤ (c - u).toInt := by rw [own_sub h h']; omega
theorem own_Gg {c u : Int64} (h : 0 ≤ u.toInt ∧ u.toInt ≤ c.toInt) : ¬ (c < u) := by rw [Int64.lt_iff_toInt_lt]; omega
theorem own_Hh {c u w : Int64} (h : 0 ≤ u.toInt) (h' : u.toInt ≤ c.toInt) (g : 0 ≤ w.toInt ∧ w.toInt ≤ (c - u).toInt) : (u + w).toInt = u.toInt + w.toInt ∧ u.toInt + w.toInt ≤ c.toInt := by
  rw [own_sub h h'] at g
  have h5 := rng64 c
  exact ⟨own_add h g.1 (by omega), by omega⟩
theorem own_I {c u1 k1 u2 : Int64} (hu : 0 ≤ u1.toInt ∧ u1.toInt ≤ c.toInt) (hk : 0 ≤ k1.toInt ∧ k1.toInt ≤ u1.toInt) (g : 0 ≤ u2.toInt ∧ u2.toInt ≤ (c - k1).toInt) :
    (if (c - (k1 + u2)) < (if (c - ((0 : Int64) + u1)) < c then (c - ((0 : Int64) + u1)) else c) then (c - (k1 + u2)) else (if (c - ((0 : Int64) + u1)) < c then (c - ((0 : Int64) + u1)) else c)) = (if ((c - k1) - u2) < (c - u1) then ((c - k1) - u2) else (c - u1)) := by
  have e0 : (0 : Int64) + u1 = u1 := by simp
  rw [e0]
  have h1 := own_Hh hk.1 (by omega) g
  have h2 := own_sub hu.1 hu.2
  have h3 : (c - k1).toInt = c.toInt - k1.toInt := own_sub hk.1 (by omega)
  have h4 : ((c - k1) - u2).toInt = c.toInt - k1.toInt - u2.toInt := by rw [own_sub g.1 g.2, h3]
  have h5 : (c - (k1 + u2)).toInt = c.toInt - k1.toInt - u2.toInt := by rw [own_sub (by omega) (by omega), h1.1]; omega
  have h6 : (c - (k1 + u2)) = ((c - k1) - u2) := by rw [← Int64.toInt_inj]; omega
  have h7 : (if (c - u1) < c then (c - u1) else c) = c - u1 := by
    split
    · rfl
    · rename_i q; rw [Int64.lt_iff_toInt_lt] at q; rw [← Int64.toInt_inj]; omega
  rw [h7, h6]
theorem own_J {k1 k2 : Int64} (hk : 0 ≤ k1.toInt) : (if (if (0 : Int64) < k1 then k1 else (0 : Int64)) < k2 then k2 else (if (0 : Int64) < k1 then k1 else (0 : Int64))) = (if k1 < k2 then k2 else k1) := by rw [own_E hk]
theorem own_d6_0 : decode jdk_29_method_70_code 0 = .ok (.lload_n 0, 1) := by decide +kernel
theorem own_d6_1 : decode jdk_29_method_70_code 1 = .ok (.lload_n 2, 1) := by decide +kernel
theorem own_d6_2 : decode jdk_29_method_70_code 2 = .ok (.lcmp, 1) := by decide +kernel
theorem own_d6_3 : decode jdk_29_method_70_code 3 = .ok (.ifCond .gt 7, 3) := by decide +kernel
theorem own_d6_6 : decode jdk_29_method_70_code 6 = .ok (.lload_n 0, 1) := by decide +kernel
theorem own_d6_7 : decode jdk_29_method_70_code 7 = .ok (.goto 4, 3) := by decide +kernel
theorem own_d6_10 : decode jdk_29_method_70_code 10 = .ok (.lload_n 2, 1) := by decide +kernel
theorem own_d6_11 : decode jdk_29_method_70_code 11 = .ok (.lreturn, 1) := by decide +kernel
theorem own_ef6 (m : MethodId) (x0 : Int64) (x1 : Int64) : entryFrame m #[(.long x0), (.long x1)] 4 = mkF m 0 #[.val (.long x0), .second, .val (.long x1), .second] [] := by first | (simp [entryFrame, mkF, argsToLocals, Value.category]; done) | rfl
def own_Q_own_min (Z : State) (u : Int64) (w : Int64) (h0 : Heap) (n0 : Nat) (v : Option Value) (h : Heap) (L : List Loc) : Prop := v = some (.long (if w < u then w else u)) ∧ Fr n0 L ∧ h = h0
set_option maxRecDepth 65536 in
set_option maxHeartbeats 40000000 in
theorem own_min (l : Launch) (Z : State) (a0 : Array Value) (hw : ∀ d ∈ tables_1, d.before a0 Z = true) (ws : List Jvm.Cond) (u : Int64) (w : Int64) (h0 : Heap) (n0 : Nat) (Z0 : n0 ≤ h0.size) :
    MetFree l (⟨"java/lang/Math", "min", "(JJ)J"⟩ : MethodName) (head1 (Jvm.Cond.code (⟨"java/lang/Math", "min", "(JJ)J"⟩ : MethodName) jdk_29_method_70_code 4 (some .long) :: ws) ({ frames := 0, cells := 0, slots := 0, locals := 0 } : Room)) (fun as_ U => as_ = #[(.long u), (.long w)] ∧ Z.Warmed39 U.vm ∧ U.heap = h0) (fun _ _ _ _ _ => True) (fun _ U o U' => ∃ v L, o = .returned v ∧ own_Q_own_min Z u w h0 n0 v U'.heap L ∧ FrameEnd U o U' L ({ frames := 0, cells := 0, slots := 0, locals := 0 } : Room).cells ({ frames := 0, cells := 0, slots := 0, locals := 0 } : Room).slots) := by
  refine MetFree.of_bodySF (Jvm.Free.JP.mathPlain rfl (by decide +kernel)) hisR ?_
  intro p e s m args below meth c s₁ Bd hml0 hP hK
  obtain ⟨rfl, hZ, hh⟩ := hP
  have hx := Bd.exec
  have hby := Bd.bytes
  have hml : c.maxLocals = 4 := hml0
  have hown : s.vm.findClass "java/lang/Math" = some m.cls := findClass_of_methodNamed Bd.named
  have hnm := (name_of_methodNamed Bd.named Bd.method).1
  have X0 : Stand p l e ({ frames := 0, cells := 0, slots := 0, locals := 0 } : Room) s m #[(.long u), (.long w)] below meth c s₁ [] 0 0 := Stand.of_body Bd
  have e0 : s₁.heap = h0 := by rw [← hh, Bd.state]; rfl
  have N0 := Fr.nil n0
  have pre0 : ∀ t, Steps p.tables e below (s₁.setTop (mkF m 0 #[.val (.long u), .second, .val (.long w), .second] [])) t → Steps p.tables e below (s₁.setTop (entryFrame m #[(.long u), (.long w)] 4)) t := fun t k => castTop (own_ef6 m u w) k
  have pre1 : ∀ t, Steps p.tables e below (s₁.setTop (mkF m 3 #[.val (.long u), .second, .val (.long w), .second] [(.int (lcmpW u w))])) t → Steps p.tables e below (s₁.setTop (entryFrame m #[(.long u), (.long w)] 4)) t := fun t k => pre0 t (by
    show Steps p.tables e below (s₁.setTop (mkF m 0 #[.val (.long u), .second, .val (.long w), .second] [])) _
    refine XS.lloadN X0.here hx rfl (hb hby own_d6_0) rfl ?_
    show Steps p.tables e below (s₁.setTop (mkF m 1 #[.val (.long u), .second, .val (.long w), .second] [(.long u)])) _
    refine XS.lloadN X0.here hx rfl (hb hby own_d6_1) rfl ?_
    show Steps p.tables e below (s₁.setTop (mkF m 2 #[.val (.long u), .second, .val (.long w), .second] [(.long w), (.long u)])) _
    refine XS.lcmp X0.here hx rfl (hb hby own_d6_2) rfl ?_
    show Steps p.tables e below (s₁.setTop (mkF m 3 #[.val (.long u), .second, .val (.long w), .second] [(.int (lcmpW u w))])) _
    exact k)
  by_cases hc2 : w < u
  · skip
    obtain ⟨fs, hr, hrun, hended, hW, hsame⟩ := X0.leave (v := some (.long w)) (fun h => by rw [Bd.returns] at h; cases h)
    refine ⟨_, _, pre1 _ ?_, hrun, hended, _, _, rfl, ?_, ⟨_, rfl⟩, hW, hsame.mono (by decide) (by decide)⟩
    · refine XS.ifYes X0.here hx rfl (pc0 := 3) (pc' := 10) rfl (hb hby own_d6_3) rfl ((if0 _ _).trans (tlt ((lw_gt _ _).mpr hc2)).2.2.1) (by decide) (by decide) ?_
      show Steps p.tables e below (s₁.setTop (mkF m 10 #[.val (.long u), .second, .val (.long w), .second] [])) _
      refine XS.lloadN X0.here hx rfl (hb hby own_d6_10) rfl ?_
      show Steps p.tables e below (s₁.setTop (mkF m 11 #[.val (.long u), .second, .val (.long w), .second] [(.long w)])) _
      exact retOut X0 hx (t := .long) Bd.returns rfl (Or.inr (Or.inl ⟨rfl, rfl, _, rfl⟩)) (hb hby own_d6_11) hr
    · show own_Q_own_min Z u w h0 n0 _ s₁.heap _
      rw [e0]
      exact ⟨by simp [hc2], N0, rfl⟩
  · skip
    obtain ⟨fs, hr, hrun, hended, hW, hsame⟩ := X0.leave (v := some (.long u)) (fun h => by rw [Bd.returns] at h; cases h)
    refine ⟨_, _, pre1 _ ?_, hrun, hended, _, _, rfl, ?_, ⟨_, rfl⟩, hW, hsame.mono (by decide) (by decide)⟩
    · refine XS.ifNo X0.here hx rfl (hb hby own_d6_3) rfl ((if0 _ _).trans (flt (fun q => hc2 ((lw_gt _ _).mp q))).2.2.1) ?_
      show Steps p.tables e below (s₁.setTop (mkF m 6 #[.val (.long u), .second, .val (.long w), .second] [])) _
      refine XS.lloadN X0.here hx rfl (hb hby own_d6_6) rfl ?_
      show Steps p.tables e below (s₁.setTop (mkF m 7 #[.val (.long u), .second, .val (.long w), .second] [(.long u)])) _
      refine XS.goto X0.here hx rfl (pc0 := 7) (pc' := 11) rfl (hb hby own_d6_7) (by decide) (by decide) ?_
      show Steps p.tables e below (s₁.setTop (mkF m 11 #[.val (.long u), .second, .val (.long w), .second] [(.long u)])) _
      exact retOut X0 hx (t := .long) Bd.returns rfl (Or.inr (Or.inl ⟨rfl, rfl, _, rfl⟩)) (hb hby own_d6_11) hr
    · show own_Q_own_min Z u w h0 n0 _ s₁.heap _
      rw [e0]
      exact ⟨by simp [hc2], N0, rfl⟩
theorem own_d8_0 : decode jdk_29_method_66_code 0 = .ok (.lload_n 0, 1) := by decide +kernel
theorem own_d8_1 : decode jdk_29_method_66_code 1 = .ok (.lload_n 2, 1) := by decide +kernel
theorem own_d8_2 : decode jdk_29_method_66_code 2 = .ok (.lcmp, 1) := by decide +kernel
theorem own_d8_3 : decode jdk_29_method_66_code 3 = .ok (.ifCond .lt 7, 3) := by decide +kernel
theorem own_d8_6 : decode jdk_29_method_66_code 6 = .ok (.lload_n 0, 1) := by decide +kernel
theorem own_d8_7 : decode jdk_29_method_66_code 7 = .ok (.goto 4, 3) := by decide +kernel
theorem own_d8_10 : decode jdk_29_method_66_code 10 = .ok (.lload_n 2, 1) := by decide +kernel
theorem own_d8_11 : decode jdk_29_method_66_code 11 = .ok (.lreturn, 1) := by decide +kernel
theorem own_ef8 (m : MethodId) (x0 : Int64) (x1 : Int64) : entryFrame m #[(.long x0), (.long x1)] 4 = mkF m 0 #[.val (.long x0), .second, .val (.long x1), .second] [] := by first | (simp [entryFrame, mkF, argsToLocals, Value.category]; done) | rfl
def own_Q_own_max (Z : State) (u : Int64) (w : Int64) (h0 : Heap) (n0 : Nat) (v : Option Value) (h : Heap) (L : List Loc) : Prop := v = some (.long (if u < w then w else u)) ∧ Fr n0 L ∧ h = h0
set_option maxRecDepth 65536 in
set_option maxHeartbeats 40000000 in
theorem own_max (l : Launch) (Z : State) (a0 : Array Value) (hw : ∀ d ∈ tables_1, d.before a0 Z = true) (ws : List Jvm.Cond) (u : Int64) (w : Int64) (h0 : Heap) (n0 : Nat) (Z0 : n0 ≤ h0.size) :
    MetFree l (⟨"java/lang/Math", "max", "(JJ)J"⟩ : MethodName) (head1 (Jvm.Cond.code (⟨"java/lang/Math", "max", "(JJ)J"⟩ : MethodName) jdk_29_method_66_code 4 (some .long) :: ws) ({ frames := 0, cells := 0, slots := 0, locals := 0 } : Room)) (fun as_ U => as_ = #[(.long u), (.long w)] ∧ Z.Warmed39 U.vm ∧ U.heap = h0) (fun _ _ _ _ _ => True) (fun _ U o U' => ∃ v L, o = .returned v ∧ own_Q_own_max Z u w h0 n0 v U'.heap L ∧ FrameEnd U o U' L ({ frames := 0, cells := 0, slots := 0, locals := 0 } : Room).cells ({ frames := 0, cells := 0, slots := 0, locals := 0 } : Room).slots) := by
  refine MetFree.of_bodySF (Jvm.Free.JP.mathPlain rfl (by decide +kernel)) hisR ?_
  intro p e s m args below meth c s₁ Bd hml0 hP hK
  obtain ⟨rfl, hZ, hh⟩ := hP
  have hx := Bd.exec
  have hby := Bd.bytes
  have hml : c.maxLocals = 4 := hml0
  have hown : s.vm.findClass "java/lang/Math" = some m.cls := findClass_of_methodNamed Bd.named
  have hnm := (name_of_methodNamed Bd.named Bd.method).1
  have X0 : Stand p l e ({ frames := 0, cells := 0, slots := 0, locals := 0 } : Room) s m #[(.long u), (.long w)] below meth c s₁ [] 0 0 := Stand.of_body Bd
  have e0 : s₁.heap = h0 := by rw [← hh, Bd.state]; rfl
  have N0 := Fr.nil n0
  have pre0 : ∀ t, Steps p.tables e below (s₁.setTop (mkF m 0 #[.val (.long u), .second, .val (.long w), .second] [])) t → Steps p.tables e below (s₁.setTop (entryFrame m #[(.long u), (.long w)] 4)) t := fun t k => castTop (own_ef8 m u w) k
  have pre1 : ∀ t, Steps p.tables e below (s₁.setTop (mkF m 3 #[.val (.long u), .second, .val (.long w), .second] [(.int (lcmpW u w))])) t → Steps p.tables e below (s₁.setTop (entryFrame m #[(.long u), (.long w)] 4)) t := fun t k => pre0 t (by
    show Steps p.tables e below (s₁.setTop (mkF m 0 #[.val (.long u), .second, .val (.long w), .second] [])) _
    refine XS.lloadN X0.here hx rfl (hb hby own_d8_0) rfl ?_
    show Steps p.tables e below (s₁.setTop (mkF m 1 #[.val (.long u), .second, .val (.long w), .second] [(.long u)])) _
    refine XS.lloadN X0.here hx rfl (hb hby own_d8_1) rfl ?_
    show Steps p.tables e below (s₁.setTop (mkF m 2 #[.val (.long u), .second, .val (.long w), .second] [(.long w), (.long u)])) _
    refine XS.lcmp X0.here hx rfl (hb hby own_d8_2) rfl ?_
    show Steps p.tables e below (s₁.setTop (mkF m 3 #[.val (.long u), .second, .val (.long w), .second] [(.int (lcmpW u w))])) _
    exact k)
  by_cases hc2 : u < w
  · skip
    obtain ⟨fs, hr, hrun, hended, hW, hsame⟩ := X0.leave (v := some (.long w)) (fun h => by rw [Bd.returns] at h; cases h)
    refine ⟨_, _, pre1 _ ?_, hrun, hended, _, _, rfl, ?_, ⟨_, rfl⟩, hW, hsame.mono (by decide) (by decide)⟩
    · refine XS.ifYes X0.here hx rfl (pc0 := 3) (pc' := 10) rfl (hb hby own_d8_3) rfl ((if0 _ _).trans (tlt ((lw_lt _ _).mpr hc2)).1) (by decide) (by decide) ?_
      show Steps p.tables e below (s₁.setTop (mkF m 10 #[.val (.long u), .second, .val (.long w), .second] [])) _
      refine XS.lloadN X0.here hx rfl (hb hby own_d8_10) rfl ?_
      show Steps p.tables e below (s₁.setTop (mkF m 11 #[.val (.long u), .second, .val (.long w), .second] [(.long w)])) _
      exact retOut X0 hx (t := .long) Bd.returns rfl (Or.inr (Or.inl ⟨rfl, rfl, _, rfl⟩)) (hb hby own_d8_11) hr
    · show own_Q_own_max Z u w h0 n0 _ s₁.heap _
      rw [e0]
      exact ⟨by simp [hc2], N0, rfl⟩
  · skip
    obtain ⟨fs, hr, hrun, hended, hW, hsame⟩ := X0.leave (v := some (.long u)) (fun h => by rw [Bd.returns] at h; cases h)
    refine ⟨_, _, pre1 _ ?_, hrun, hended, _, _, rfl, ?_, ⟨_, rfl⟩, hW, hsame.mono (by decide) (by decide)⟩
    · refine XS.ifNo X0.here hx rfl (hb hby own_d8_3) rfl ((if0 _ _).trans (flt (fun q => hc2 ((lw_lt _ _).mp q))).1) ?_
      show Steps p.tables e below (s₁.setTop (mkF m 6 #[.val (.long u), .second, .val (.long w), .second] [])) _
      refine XS.lloadN X0.here hx rfl (hb hby own_d8_6) rfl ?_
      show Steps p.tables e below (s₁.setTop (mkF m 7 #[.val (.long u), .second, .val (.long w), .second] [(.long u)])) _
      refine XS.goto X0.here hx rfl (pc0 := 7) (pc' := 11) rfl (hb hby own_d8_7) (by decide) (by decide) ?_
      show Steps p.tables e below (s₁.setTop (mkF m 11 #[.val (.long u), .second, .val (.long w), .second] [(.long u)])) _
      exact retOut X0 hx (t := .long) Bd.returns rfl (Or.inr (Or.inl ⟨rfl, rfl, _, rfl⟩)) (hb hby own_d8_11) hr
    · show own_Q_own_max Z u w h0 n0 _ s₁.heap _
      rw [e0]
      exact ⟨by simp [hc2], N0, rfl⟩
theorem own_d3_0 : decode method_2_code 0 = .ok (.lload_n 0, 1) := by decide +kernel
theorem own_d3_1 : decode method_2_code 1 = .ok (.ldc2_w 9, 3) := by decide +kernel
theorem own_d3_4 : decode method_2_code 4 = .ok (.land, 1) := by decide +kernel
theorem own_d3_5 : decode method_2_code 5 = .ok (.lstore 4, 2) := by decide +kernel
theorem own_d3_7 : decode method_2_code 7 = .ok (.lload_n 2, 1) := by decide +kernel
theorem own_d3_8 : decode method_2_code 8 = .ok (.ldc2_w 9, 3) := by decide +kernel
theorem own_d3_11 : decode method_2_code 11 = .ok (.lcmp, 1) := by decide +kernel
theorem own_d3_12 : decode method_2_code 12 = .ok (.ifCond .ne 6, 3) := by decide +kernel
theorem own_d3_15 : decode method_2_code 15 = .ok (.lload 4, 2) := by decide +kernel
theorem own_d3_17 : decode method_2_code 17 = .ok (.lreturn, 1) := by decide +kernel
theorem own_d3_18 : decode method_2_code 18 = .ok (.lload 4, 2) := by decide +kernel
theorem own_d3_20 : decode method_2_code 20 = .ok (.lload_n 2, 1) := by decide +kernel
theorem own_d3_21 : decode method_2_code 21 = .ok (.lconst 1, 1) := by decide +kernel
theorem own_d3_22 : decode method_2_code 22 = .ok (.ladd, 1) := by decide +kernel
theorem own_d3_23 : decode method_2_code 23 = .ok (.lrem, 1) := by decide +kernel
theorem own_d3_24 : decode method_2_code 24 = .ok (.lreturn, 1) := by decide +kernel
theorem own_pn0 : plainName "com/example/idunn/idunn/simulation/SemispacesFlipPinLaw" = true := by first | (simp [plainName, overriddenIn]; done) | decide +kernel
theorem own_ef3 (m : MethodId) (x0 : Int64) (x1 : Int64) : entryFrame m #[(.long x0), (.long x1)] 6 = mkF m 0 #[.val (.long x0), .second, .val (.long x1), .second, .unset, .unset] [] := by first | (simp [entryFrame, mkF, argsToLocals, Value.category]; done) | rfl
def own_Q_own_up (Z : State) (x1 : Int64) (bd : Int64) (h0 : Heap) (n0 : Nat) (v : Option Value) (h : Heap) (L : List Loc) : Prop := ∃ r : Int64, v = some (.long r) ∧ Fr n0 L ∧ h = h0 ∧ 0 ≤ r.toInt ∧ r.toInt ≤ bd.toInt
set_option maxRecDepth 65536 in
set_option maxHeartbeats 40000000 in
theorem own_up (l : Launch) (Z : State) (a0 : Array Value) (hw : ∀ d ∈ tables_1, d.before a0 Z = true) (ws : List Jvm.Cond) (x1 : Int64) (bd : Int64) (h0 : Heap) (n0 : Nat) (Z0 : n0 ≤ h0.size) (hbd : 0 ≤ bd.toInt) :
    MetFree l (⟨"com/example/idunn/idunn/simulation/SemispacesFlipPinLaw", "upTo", "(JJ)J"⟩ : MethodName) (head1 (Jvm.Cond.code (⟨"com/example/idunn/idunn/simulation/SemispacesFlipPinLaw", "upTo", "(JJ)J"⟩ : MethodName) method_2_code 6 (some .long) :: ws) ({ frames := 0, cells := 0, slots := 0, locals := 0 } : Room)) (fun as_ U => as_ = #[(.long x1), (.long bd)] ∧ Z.Warmed39 U.vm ∧ U.heap = h0) (fun _ _ _ _ _ => True) (fun _ U o U' => ∃ v L, o = .returned v ∧ own_Q_own_up Z x1 bd h0 n0 v U'.heap L ∧ FrameEnd U o U' L ({ frames := 0, cells := 0, slots := 0, locals := 0 } : Room).cells ({ frames := 0, cells := 0, slots := 0, locals := 0 } : Room).slots) := by
  refine MetFree.of_bodySF (plainFor_of_name own_pn0) hisR ?_
  intro p e s m args below meth c s₁ Bd hml0 hP hK
  obtain ⟨rfl, hZ, hh⟩ := hP
  have hx := Bd.exec
  have hby := Bd.bytes
  have hml : c.maxLocals = 6 := hml0
  have hown : s.vm.findClass "com/example/idunn/idunn/simulation/SemispacesFlipPinLaw" = some m.cls := findClass_of_methodNamed Bd.named
  have hnm := (name_of_methodNamed Bd.named Bd.method).1
  have X0 : Stand p l e ({ frames := 0, cells := 0, slots := 0, locals := 0 } : Room) s m #[(.long x1), (.long bd)] below meth c s₁ [] 0 0 := Stand.of_body Bd
  have e0 : s₁.heap = h0 := by rw [← hh, Bd.state]; rfl
  have N0 := Fr.nil n0
  have pre0 : ∀ t, Steps p.tables e below (s₁.setTop (mkF m 0 #[.val (.long x1), .second, .val (.long bd), .second, .unset, .unset] [])) t → Steps p.tables e below (s₁.setTop (entryFrame m #[(.long x1), (.long bd)] 6)) t := fun t k => castTop (own_ef3 m x1 bd) k
  have pre1 : ∀ t, Steps p.tables e below (s₁.setTop (mkF m 12 #[.val (.long x1), .second, .val (.long bd), .second, .val (.long (x1 &&& (9223372036854775807 : Int64))), .second] [(.int (lcmpW bd (9223372036854775807 : Int64)))])) t → Steps p.tables e below (s₁.setTop (entryFrame m #[(.long x1), (.long bd)] 6)) t := fun t k => pre0 t (by
    show Steps p.tables e below (s₁.setTop (mkF m 0 #[.val (.long x1), .second, .val (.long bd), .second, .unset, .unset] [])) _
    refine XS.lloadN X0.here hx rfl (hb hby own_d3_0) rfl ?_
    show Steps p.tables e below (s₁.setTop (mkF m 1 #[.val (.long x1), .second, .val (.long bd), .second, .unset, .unset] [(.long x1)])) _
    refine X0.ldc2Long hx hown (mvT hZ (hw _ (List.mem_of_getElem? (i := 0) rfl))) (g := (mkF m 1 #[.val (.long x1), .second, .val (.long bd), .second, .unset, .unset] [(.long x1)])) rfl (hb hby own_d3_1) _ ?_
    show Steps p.tables e below (s₁.setTop (mkF m 4 #[.val (.long x1), .second, .val (.long bd), .second, .unset, .unset] [(.long (9223372036854775807 : Int64)), (.long x1)])) _
    refine XS.land X0.here hx rfl (hb hby own_d3_4) rfl ?_
    show Steps p.tables e below (s₁.setTop (mkF m 5 #[.val (.long x1), .second, .val (.long bd), .second, .unset, .unset] [(.long (x1 &&& (9223372036854775807 : Int64)))])) _
    refine XS.lstore X0.here hx rfl (hb hby own_d3_5) rfl (l' := #[.val (.long x1), .second, .val (.long bd), .second, .val (.long (x1 &&& (9223372036854775807 : Int64))), .second]) rfl ?_
    show Steps p.tables e below (s₁.setTop (mkF m 7 #[.val (.long x1), .second, .val (.long bd), .second, .val (.long (x1 &&& (9223372036854775807 : Int64))), .second] [])) _
    refine XS.lloadN X0.here hx rfl (hb hby own_d3_7) rfl ?_
    show Steps p.tables e below (s₁.setTop (mkF m 8 #[.val (.long x1), .second, .val (.long bd), .second, .val (.long (x1 &&& (9223372036854775807 : Int64))), .second] [(.long bd)])) _
    refine X0.ldc2Long hx hown (mvT hZ (hw _ (List.mem_of_getElem? (i := 0) rfl))) (g := (mkF m 8 #[.val (.long x1), .second, .val (.long bd), .second, .val (.long (x1 &&& (9223372036854775807 : Int64))), .second] [(.long bd)])) rfl (hb hby own_d3_8) _ ?_
    show Steps p.tables e below (s₁.setTop (mkF m 11 #[.val (.long x1), .second, .val (.long bd), .second, .val (.long (x1 &&& (9223372036854775807 : Int64))), .second] [(.long (9223372036854775807 : Int64)), (.long bd)])) _
    refine XS.lcmp X0.here hx rfl (hb hby own_d3_11) rfl ?_
    show Steps p.tables e below (s₁.setTop (mkF m 12 #[.val (.long x1), .second, .val (.long bd), .second, .val (.long (x1 &&& (9223372036854775807 : Int64))), .second] [(.int (lcmpW bd (9223372036854775807 : Int64)))])) _
    exact k)
  by_cases hc2 : bd = (9223372036854775807 : Int64)
  · skip
    obtain ⟨fs, hr, hrun, hended, hW, hsame⟩ := X0.leave (v := some (.long (x1 &&& (9223372036854775807 : Int64)))) (fun h => by rw [Bd.returns] at h; cases h)
    refine ⟨_, _, pre1 _ ?_, hrun, hended, _, _, rfl, ?_, ⟨_, rfl⟩, hW, hsame.mono (by decide) (by decide)⟩
    · refine XS.ifNo X0.here hx rfl (hb hby own_d3_12) rfl ((if0 _ _).trans (teq ((lw_eq _ _).mpr hc2)).2) ?_
      show Steps p.tables e below (s₁.setTop (mkF m 15 #[.val (.long x1), .second, .val (.long bd), .second, .val (.long (x1 &&& (9223372036854775807 : Int64))), .second] [])) _
      refine XS.lload X0.here hx rfl (hb hby own_d3_15) rfl ?_
      show Steps p.tables e below (s₁.setTop (mkF m 17 #[.val (.long x1), .second, .val (.long bd), .second, .val (.long (x1 &&& (9223372036854775807 : Int64))), .second] [(.long (x1 &&& (9223372036854775807 : Int64)))])) _
      exact retOut X0 hx (t := .long) Bd.returns rfl (Or.inr (Or.inl ⟨rfl, rfl, _, rfl⟩)) (hb hby own_d3_17) hr
    · show own_Q_own_up Z x1 bd h0 n0 _ s₁.heap _
      rw [e0]
      exact ⟨_, rfl, N0, rfl, own_all x1 bd hc2⟩
  · skip
    obtain ⟨fs, hr, hrun, hended, hW, hsame⟩ := X0.leave (v := some (.long ((x1 &&& (9223372036854775807 : Int64)) % (bd + (1 : Int64))))) (fun h => by rw [Bd.returns] at h; cases h)
    refine ⟨_, _, pre1 _ ?_, hrun, hended, _, _, rfl, ?_, ⟨_, rfl⟩, hW, hsame.mono (by decide) (by decide)⟩
    · refine XS.ifYes X0.here hx rfl (pc0 := 12) (pc' := 18) rfl (hb hby own_d3_12) rfl ((if0 _ _).trans (feq (fun q => hc2 ((lw_eq _ _).mp q))).2) (by decide) (by decide) ?_
      show Steps p.tables e below (s₁.setTop (mkF m 18 #[.val (.long x1), .second, .val (.long bd), .second, .val (.long (x1 &&& (9223372036854775807 : Int64))), .second] [])) _
      refine XS.lload X0.here hx rfl (hb hby own_d3_18) rfl ?_
      show Steps p.tables e below (s₁.setTop (mkF m 20 #[.val (.long x1), .second, .val (.long bd), .second, .val (.long (x1 &&& (9223372036854775807 : Int64))), .second] [(.long (x1 &&& (9223372036854775807 : Int64)))])) _
      refine XS.lloadN X0.here hx rfl (hb hby own_d3_20) rfl ?_
      show Steps p.tables e below (s₁.setTop (mkF m 21 #[.val (.long x1), .second, .val (.long bd), .second, .val (.long (x1 &&& (9223372036854775807 : Int64))), .second] [(.long bd), (.long (x1 &&& (9223372036854775807 : Int64)))])) _
      refine XS.lconst X0.here hx rfl (hb hby own_d3_21) ?_
      show Steps p.tables e below (s₁.setTop (mkF m 22 #[.val (.long x1), .second, .val (.long bd), .second, .val (.long (x1 &&& (9223372036854775807 : Int64))), .second] [(.long (1 : Int64)), (.long bd), (.long (x1 &&& (9223372036854775807 : Int64)))])) _
      refine XS.ladd X0.here hx rfl (hb hby own_d3_22) rfl ?_
      show Steps p.tables e below (s₁.setTop (mkF m 23 #[.val (.long x1), .second, .val (.long bd), .second, .val (.long (x1 &&& (9223372036854775807 : Int64))), .second] [(.long (bd + (1 : Int64))), (.long (x1 &&& (9223372036854775807 : Int64)))])) _
      refine XS.lrem X0.here hx rfl (hb hby own_d3_23) rfl (own_ne0 bd hbd hc2) ?_
      rw [lrem_mod]
      show Steps p.tables e below (s₁.setTop (mkF m 24 #[.val (.long x1), .second, .val (.long bd), .second, .val (.long (x1 &&& (9223372036854775807 : Int64))), .second] [(.long ((x1 &&& (9223372036854775807 : Int64)) % (bd + (1 : Int64))))])) _
      exact retOut X0 hx (t := .long) Bd.returns rfl (Or.inr (Or.inl ⟨rfl, rfl, _, rfl⟩)) (hb hby own_d3_24) hr
    · show own_Q_own_up Z x1 bd h0 n0 _ s₁.heap _
      rw [e0]
      exact ⟨_, rfl, N0, rfl, own_rem x1 bd hbd hc2⟩
theorem own_d1_0 : decode prog_9_method_1_code 0 = .ok (.aload_n 0, 1) := by decide +kernel
theorem own_d1_1 : decode prog_9_method_1_code 1 = .ok (.invokespecial 1, 3) := by decide +kernel
theorem own_d1_4 : decode prog_9_method_1_code 4 = .ok (.aload_n 0, 1) := by decide +kernel
theorem own_d1_5 : decode prog_9_method_1_code 5 = .ok (.lload_n 1, 1) := by decide +kernel
theorem own_d1_6 : decode prog_9_method_1_code 6 = .ok (.putfield 7, 3) := by decide +kernel
theorem own_d1_9 : decode prog_9_method_1_code 9 = .ok (.aload_n 0, 1) := by decide +kernel
theorem own_d1_10 : decode prog_9_method_1_code 10 = .ok (.lload_n 1, 1) := by decide +kernel
theorem own_d1_11 : decode prog_9_method_1_code 11 = .ok (.putfield 13, 3) := by decide +kernel
theorem own_d1_14 : decode prog_9_method_1_code 14 = .ok (.return_, 1) := by decide +kernel
theorem own_pn1 : plainName "com/example/idunn/idunn/simulation/Semispaces" = true := by first | (simp [plainName, overriddenIn]; done) | decide +kernel
theorem own_ef1 (m : MethodId) (x0 : Addr) (x1 : Int64) : entryFrame m #[(.ref x0), (.long x1)] 3 = mkF m 0 #[.val (.ref x0), .val (.long x1), .second] [] := by first | (simp [entryFrame, mkF, argsToLocals, Value.category]; done) | rfl
def own_Q_own_init (Z : State) (a : Addr) (n1 : Int64) (h0 : Heap) (n0 : Nat) (v : Option Value) (h : Heap) (L : List Loc) : Prop := v = none ∧ Fr n0 L ∧ Keep h0 h [a] ∧ Exa Z h a "com/example/idunn/idunn/simulation/Semispaces" ∧ Fld Z h a "com/example/idunn/idunn/simulation/Semispaces" "capacity" "J" (.long n1) ∧ Fld Z h a "com/example/idunn/idunn/simulation/Semispaces" "used" "J" (.long (0 : Int64)) ∧ Fld Z h a "com/example/idunn/idunn/simulation/Semispaces" "minFree" "J" (.long n1) ∧ Fld Z h a "com/example/idunn/idunn/simulation/Semispaces" "mostCopied" "J" (.long (0 : Int64))
set_option maxRecDepth 65536 in
set_option maxHeartbeats 40000000 in
theorem own_init (l : Launch) (Z : State) (a0 : Array Value) (hw : ∀ d ∈ tables_1, d.before a0 Z = true) (ws : List Jvm.Cond) (a : Addr) (n1 : Int64) (h0 : Heap) (n0 : Nat) (Z0 : n0 ≤ h0.size) (E : Exa Z h0 a "com/example/idunn/idunn/simulation/Semispaces") (F_capacity : Fld Z h0 a "com/example/idunn/idunn/simulation/Semispaces" "capacity" "J" (.long (0 : Int64))) (F_used : Fld Z h0 a "com/example/idunn/idunn/simulation/Semispaces" "used" "J" (.long (0 : Int64))) (F_minFree : Fld Z h0 a "com/example/idunn/idunn/simulation/Semispaces" "minFree" "J" (.long (0 : Int64))) (F_mostCopied : Fld Z h0 a "com/example/idunn/idunn/simulation/Semispaces" "mostCopied" "J" (.long (0 : Int64))) (g : n0 ≤ a) :
    MetFree l (⟨"com/example/idunn/idunn/simulation/Semispaces", "<init>", "(J)V"⟩ : MethodName) (head1 (Jvm.Cond.code (⟨"com/example/idunn/idunn/simulation/Semispaces", "<init>", "(J)V"⟩ : MethodName) prog_9_method_1_code 3 none :: ws) ({ frames := 1, cells := 0, slots := 0, locals := 12 } : Room)) (fun as_ U => as_ = #[(.ref a), (.long n1)] ∧ Z.Warmed39 U.vm ∧ U.heap = h0) (fun _ _ _ _ _ => True) (fun _ U o U' => ∃ v L, o = .returned v ∧ own_Q_own_init Z a n1 h0 n0 v U'.heap L ∧ FrameEnd U o U' L ({ frames := 1, cells := 0, slots := 0, locals := 12 } : Room).cells ({ frames := 1, cells := 0, slots := 0, locals := 12 } : Room).slots) := by
  refine MetFree.of_bodySF (plainFor_of_name own_pn1) hisR ?_
  intro p e s m args below meth c s₁ Bd hml0 hP hK
  obtain ⟨rfl, hZ, hh⟩ := hP
  have hx := Bd.exec
  have hby := Bd.bytes
  have hml : c.maxLocals = 3 := hml0
  have hown : s.vm.findClass "com/example/idunn/idunn/simulation/Semispaces" = some m.cls := findClass_of_methodNamed Bd.named
  have hnm := (name_of_methodNamed Bd.named Bd.method).1
  have X0 : Stand p l e ({ frames := 1, cells := 0, slots := 0, locals := 12 } : Room) s m #[(.ref a), (.long n1)] below meth c s₁ [] 0 0 := Stand.of_body Bd
  have e0 : s₁.heap = h0 := by rw [← hh, Bd.state]; rfl
  have N0 := Fr.nil n0
  have pre0 : ∀ t, Steps p.tables e below (s₁.setTop (mkF m 0 #[.val (.ref a), .val (.long n1), .second] [])) t → Steps p.tables e below (s₁.setTop (entryFrame m #[(.ref a), (.long n1)] 3)) t := fun t k => castTop (own_ef1 m a n1) k
  have KP := Keep.refl h0 ([a] : List Addr)
  obtain ⟨T1, X1, e1, st1⟩ := initO X0 hx hZ hown (hw _ (List.mem_of_getElem? (i := 7) rfl)) (hw _ (List.mem_of_getElem? (i := 8) rfl)) (hw _ (List.mem_of_getElem? (i := 9) rfl)) e0 (g := (mkF m 1 #[.val (.ref a), .val (.long n1), .second] [(.ref a)])) rfl (by rw [hml]; rfl) rfl (hb hby own_d1_1) (by decide) (W := 0) (by show 2 * 0 + _ ≤ _; exact Nat.le_of_eq rfl) (by decide)
  obtain ⟨T2, h2, X2, e2, W2, st2⟩ := putF X1 hx hZ hown (host := "") (Or.inl (hw _ (List.mem_of_getElem? (i := 10) rfl))) Via.refl e1 F_capacity E (Or.inr ⟨(hw _ (List.mem_of_getElem? (i := 11) rfl)), rfl, hnm⟩) (hw _ (List.mem_of_getElem? (i := 2) rfl)) (ty := .long) (by decide) rfl rfl (g := (mkF m 6 #[.val (.ref a), .val (.long n1), .second] [(.long n1), (.ref a)])) rfl rfl (hb hby own_d1_6)
  have E := E.wr W2
  have F_used := F_used.other W2 (Or.inr (slot_ne (Or.inl (hw _ (List.mem_of_getElem? (i := 29) rfl))) (Or.inr (hw _ (List.mem_of_getElem? (i := 11) rfl))) (by decide) (t := .long) (t' := .long) (by decide) (by decide)))
  have F_minFree := F_minFree.other W2 (Or.inr (slot_ne (Or.inl (hw _ (List.mem_of_getElem? (i := 13) rfl))) (Or.inr (hw _ (List.mem_of_getElem? (i := 11) rfl))) (by decide) (t := .long) (t' := .long) (by decide) (by decide)))
  have F_mostCopied := F_mostCopied.other W2 (Or.inr (slot_ne (Or.inl (hw _ (List.mem_of_getElem? (i := 40) rfl))) (Or.inr (hw _ (List.mem_of_getElem? (i := 11) rfl))) (by decide) (t := .long) (t' := .long) (by decide) (by decide)))
  have Z3 : n0 ≤ h2.size := Nat.le_trans Z0 (Keep.of_wr W2).1
  have KP := KP.wr W2 (Or.inl (List.mem_of_getElem? (i := 0) rfl))
  have F_capacity := F_capacity.same W2
  have N2 := Fr.snoc X2 N0 g
  obtain ⟨T4, h4, X4, e4, W4, st4⟩ := putF X2 hx hZ hown (host := "") (Or.inl (hw _ (List.mem_of_getElem? (i := 12) rfl))) Via.refl e2 F_minFree E (Or.inl (hw _ (List.mem_of_getElem? (i := 13) rfl))) (hw _ (List.mem_of_getElem? (i := 2) rfl)) (ty := .long) (by decide) rfl rfl (g := (mkF m 11 #[.val (.ref a), .val (.long n1), .second] [(.long n1), (.ref a)])) rfl rfl (hb hby own_d1_11)
  have E := E.wr W4
  have F_capacity := F_capacity.other W4 (Or.inr (slot_ne (Or.inr (hw _ (List.mem_of_getElem? (i := 11) rfl))) (Or.inl (hw _ (List.mem_of_getElem? (i := 13) rfl))) (by decide) (t := .long) (t' := .long) (by decide) (by decide)))
  have F_used := F_used.other W4 (Or.inr (slot_ne (Or.inl (hw _ (List.mem_of_getElem? (i := 29) rfl))) (Or.inl (hw _ (List.mem_of_getElem? (i := 13) rfl))) (by decide) (t := .long) (t' := .long) (by decide) (by decide)))
  have F_mostCopied := F_mostCopied.other W4 (Or.inr (slot_ne (Or.inl (hw _ (List.mem_of_getElem? (i := 40) rfl))) (Or.inl (hw _ (List.mem_of_getElem? (i := 13) rfl))) (by decide) (t := .long) (t' := .long) (by decide) (by decide)))
  have Z5 : n0 ≤ h4.size := Nat.le_trans Z3 (Keep.of_wr W4).1
  have KP := KP.wr W4 (Or.inl (List.mem_of_getElem? (i := 0) rfl))
  have F_minFree := F_minFree.same W4
  have N4 := Fr.snoc X4 N2 g
  obtain ⟨fs, hr, hrun, hended, hW, hsame⟩ := X4.leave (v := none) (fun _ => rfl)
  refine ⟨_, _, pre0 _ ?_, hrun, hended, _, _, rfl, ?_, ⟨_, rfl⟩, hW, hsame.mono (by decide) (by decide)⟩
  · show Steps p.tables e below (s₁.setTop (mkF m 0 #[.val (.ref a), .val (.long n1), .second] [])) _
    refine XS.aloadN X0.here hx rfl (hb hby own_d1_0) rfl rfl ?_
    show Steps p.tables e below (s₁.setTop (mkF m 1 #[.val (.ref a), .val (.long n1), .second] [(.ref a)])) _
    refine st1 _ ?_
    show Steps p.tables e below (T1.setTop (mkF m 4 #[.val (.ref a), .val (.long n1), .second] [])) _
    refine XS.aloadN X1.here hx rfl (hb hby own_d1_4) rfl rfl ?_
    show Steps p.tables e below (T1.setTop (mkF m 5 #[.val (.ref a), .val (.long n1), .second] [(.ref a)])) _
    refine XS.lloadN X1.here hx rfl (hb hby own_d1_5) rfl ?_
    show Steps p.tables e below (T1.setTop (mkF m 6 #[.val (.ref a), .val (.long n1), .second] [(.long n1), (.ref a)])) _
    refine st2 _ ?_
    show Steps p.tables e below (T2.setTop (mkF m 9 #[.val (.ref a), .val (.long n1), .second] [])) _
    refine XS.aloadN X2.here hx rfl (hb hby own_d1_9) rfl rfl ?_
    show Steps p.tables e below (T2.setTop (mkF m 10 #[.val (.ref a), .val (.long n1), .second] [(.ref a)])) _
    refine XS.lloadN X2.here hx rfl (hb hby own_d1_10) rfl ?_
    show Steps p.tables e below (T2.setTop (mkF m 11 #[.val (.ref a), .val (.long n1), .second] [(.long n1), (.ref a)])) _
    refine st4 _ ?_
    show Steps p.tables e below (T4.setTop (mkF m 14 #[.val (.ref a), .val (.long n1), .second] [])) _
    exact X4.returnOut hx Bd.returns (hb hby own_d1_14) hr
  · show own_Q_own_init Z a n1 h0 n0 _ T4.heap _
    rw [e4]
    exact ⟨rfl, N4, KP, E, F_capacity, F_used, F_minFree, F_mostCopied⟩
theorem own_d5_0 : decode prog_9_method_2_code 0 = .ok (.aload_n 0, 1) := by decide +kernel
theorem own_d5_1 : decode prog_9_method_2_code 1 = .ok (.getfield 7, 3) := by decide +kernel
theorem own_d5_4 : decode prog_9_method_2_code 4 = .ok (.aload_n 0, 1) := by decide +kernel
theorem own_d5_5 : decode prog_9_method_2_code 5 = .ok (.getfield 16, 3) := by decide +kernel
theorem own_d5_8 : decode prog_9_method_2_code 8 = .ok (.lsub, 1) := by decide +kernel
theorem own_d5_9 : decode prog_9_method_2_code 9 = .ok (.lreturn, 1) := by decide +kernel
theorem own_ef5 (m : MethodId) (x0 : Addr) : entryFrame m #[(.ref x0)] 1 = mkF m 0 #[.val (.ref x0)] [] := by first | (simp [entryFrame, mkF, argsToLocals, Value.category]; done) | rfl
def own_Q_own_free (Z : State) (a : Addr) (cp : Int64) (us : Int64) (h0 : Heap) (n0 : Nat) (v : Option Value) (h : Heap) (L : List Loc) : Prop := v = some (.long (cp - us)) ∧ Fr n0 L ∧ h = h0
set_option maxRecDepth 65536 in
set_option maxHeartbeats 40000000 in
theorem own_free (l : Launch) (Z : State) (a0 : Array Value) (hw : ∀ d ∈ tables_1, d.before a0 Z = true) (ws : List Jvm.Cond) (a : Addr) (cp : Int64) (us : Int64) (h0 : Heap) (n0 : Nat) (Z0 : n0 ≤ h0.size) (F_capacity : Fld Z h0 a "com/example/idunn/idunn/simulation/Semispaces" "capacity" "J" (.long cp)) (F_used : Fld Z h0 a "com/example/idunn/idunn/simulation/Semispaces" "used" "J" (.long us)) :
    MetFree l (⟨"com/example/idunn/idunn/simulation/Semispaces", "free", "()J"⟩ : MethodName) (head1 (Jvm.Cond.code (⟨"com/example/idunn/idunn/simulation/Semispaces", "free", "()J"⟩ : MethodName) prog_9_method_2_code 1 (some .long) :: ws) ({ frames := 0, cells := 0, slots := 0, locals := 0 } : Room)) (fun as_ U => as_ = #[(.ref a)] ∧ Z.Warmed39 U.vm ∧ U.heap = h0) (fun _ _ _ _ _ => True) (fun _ U o U' => ∃ v L, o = .returned v ∧ own_Q_own_free Z a cp us h0 n0 v U'.heap L ∧ FrameEnd U o U' L ({ frames := 0, cells := 0, slots := 0, locals := 0 } : Room).cells ({ frames := 0, cells := 0, slots := 0, locals := 0 } : Room).slots) := by
  refine MetFree.of_bodySF (plainFor_of_name own_pn1) hisR ?_
  intro p e s m args below meth c s₁ Bd hml0 hP hK
  obtain ⟨rfl, hZ, hh⟩ := hP
  have hx := Bd.exec
  have hby := Bd.bytes
  have hml : c.maxLocals = 1 := hml0
  have hown : s.vm.findClass "com/example/idunn/idunn/simulation/Semispaces" = some m.cls := findClass_of_methodNamed Bd.named
  have hnm := (name_of_methodNamed Bd.named Bd.method).1
  have X0 : Stand p l e ({ frames := 0, cells := 0, slots := 0, locals := 0 } : Room) s m #[(.ref a)] below meth c s₁ [] 0 0 := Stand.of_body Bd
  have e0 : s₁.heap = h0 := by rw [← hh, Bd.state]; rfl
  have N0 := Fr.nil n0
  have pre0 : ∀ t, Steps p.tables e below (s₁.setTop (mkF m 0 #[.val (.ref a)] [])) t → Steps p.tables e below (s₁.setTop (entryFrame m #[(.ref a)] 1)) t := fun t k => castTop (own_ef5 m a) k
  obtain ⟨T1, X1, e1, st1⟩ := getF X0 hx hZ hown (host := "") (Or.inl (hw _ (List.mem_of_getElem? (i := 10) rfl))) Via.refl e0 F_capacity (g := (mkF m 1 #[.val (.ref a)] [(.ref a)])) rfl rfl (hb hby own_d5_1)
  obtain ⟨T2, X2, e2, st2⟩ := getF X1 hx hZ hown (host := "") (Or.inl (hw _ (List.mem_of_getElem? (i := 28) rfl))) Via.refl e1 F_used (g := (mkF m 5 #[.val (.ref a)] [(.ref a), (.long cp)])) rfl rfl (hb hby own_d5_5)
  obtain ⟨fs, hr, hrun, hended, hW, hsame⟩ := X2.leave (v := some (.long (cp - us))) (fun h => by rw [Bd.returns] at h; cases h)
  refine ⟨_, _, pre0 _ ?_, hrun, hended, _, _, rfl, ?_, ⟨_, rfl⟩, hW, hsame.mono (by decide) (by decide)⟩
  · show Steps p.tables e below (s₁.setTop (mkF m 0 #[.val (.ref a)] [])) _
    refine XS.aloadN X0.here hx rfl (hb hby own_d5_0) rfl rfl ?_
    show Steps p.tables e below (s₁.setTop (mkF m 1 #[.val (.ref a)] [(.ref a)])) _
    refine st1 _ ?_
    show Steps p.tables e below (T1.setTop (mkF m 4 #[.val (.ref a)] [(.long cp)])) _
    refine XS.aloadN X1.here hx rfl (hb hby own_d5_4) rfl rfl ?_
    show Steps p.tables e below (T1.setTop (mkF m 5 #[.val (.ref a)] [(.ref a), (.long cp)])) _
    refine st2 _ ?_
    show Steps p.tables e below (T2.setTop (mkF m 8 #[.val (.ref a)] [(.long us), (.long cp)])) _
    refine XS.lsub X2.here hx rfl (hb hby own_d5_8) rfl ?_
    show Steps p.tables e below (T2.setTop (mkF m 9 #[.val (.ref a)] [(.long (cp - us))])) _
    exact retOut X2 hx (t := .long) Bd.returns rfl (Or.inr (Or.inl ⟨rfl, rfl, _, rfl⟩)) (hb hby own_d5_9) hr
  · show own_Q_own_free Z a cp us h0 n0 _ T2.heap _
    rw [e2]
    exact ⟨rfl, N0, rfl⟩
theorem own_d10_0 : decode prog_9_method_5_code 0 = .ok (.aload_n 0, 1) := by decide +kernel
theorem own_d10_1 : decode prog_9_method_5_code 1 = .ok (.getfield 13, 3) := by decide +kernel
theorem own_d10_4 : decode prog_9_method_5_code 4 = .ok (.lreturn, 1) := by decide +kernel
theorem own_ef10 (m : MethodId) (x0 : Addr) : entryFrame m #[(.ref x0)] 1 = mkF m 0 #[.val (.ref x0)] [] := by first | (simp [entryFrame, mkF, argsToLocals, Value.category]; done) | rfl
def own_Q_own_get_minFree (Z : State) (a : Addr) (mf : Int64) (h0 : Heap) (n0 : Nat) (v : Option Value) (h : Heap) (L : List Loc) : Prop := v = some (.long mf) ∧ Fr n0 L ∧ h = h0
set_option maxRecDepth 65536 in
set_option maxHeartbeats 40000000 in
theorem own_get_minFree (l : Launch) (Z : State) (a0 : Array Value) (hw : ∀ d ∈ tables_1, d.before a0 Z = true) (ws : List Jvm.Cond) (a : Addr) (mf : Int64) (h0 : Heap) (n0 : Nat) (Z0 : n0 ≤ h0.size) (F : Fld Z h0 a "com/example/idunn/idunn/simulation/Semispaces" "minFree" "J" (.long mf)) :
    MetFree l (⟨"com/example/idunn/idunn/simulation/Semispaces", "minFree", "()J"⟩ : MethodName) (head1 (Jvm.Cond.code (⟨"com/example/idunn/idunn/simulation/Semispaces", "minFree", "()J"⟩ : MethodName) prog_9_method_5_code 1 (some .long) :: ws) ({ frames := 0, cells := 0, slots := 0, locals := 0 } : Room)) (fun as_ U => as_ = #[(.ref a)] ∧ Z.Warmed39 U.vm ∧ U.heap = h0) (fun _ _ _ _ _ => True) (fun _ U o U' => ∃ v L, o = .returned v ∧ own_Q_own_get_minFree Z a mf h0 n0 v U'.heap L ∧ FrameEnd U o U' L ({ frames := 0, cells := 0, slots := 0, locals := 0 } : Room).cells ({ frames := 0, cells := 0, slots := 0, locals := 0 } : Room).slots) := by
  refine MetFree.of_bodySF (plainFor_of_name own_pn1) hisR ?_
  intro p e s m args below meth c s₁ Bd hml0 hP hK
  obtain ⟨rfl, hZ, hh⟩ := hP
  have hx := Bd.exec
  have hby := Bd.bytes
  have hml : c.maxLocals = 1 := hml0
  have hown : s.vm.findClass "com/example/idunn/idunn/simulation/Semispaces" = some m.cls := findClass_of_methodNamed Bd.named
  have hnm := (name_of_methodNamed Bd.named Bd.method).1
  have X0 : Stand p l e ({ frames := 0, cells := 0, slots := 0, locals := 0 } : Room) s m #[(.ref a)] below meth c s₁ [] 0 0 := Stand.of_body Bd
  have e0 : s₁.heap = h0 := by rw [← hh, Bd.state]; rfl
  have N0 := Fr.nil n0
  have pre0 : ∀ t, Steps p.tables e below (s₁.setTop (mkF m 0 #[.val (.ref a)] [])) t → Steps p.tables e below (s₁.setTop (entryFrame m #[(.ref a)] 1)) t := fun t k => castTop (own_ef10 m a) k
  obtain ⟨T1, X1, e1, st1⟩ := getF X0 hx hZ hown (host := "") (Or.inl (hw _ (List.mem_of_getElem? (i := 12) rfl))) Via.refl e0 F (g := (mkF m 1 #[.val (.ref a)] [(.ref a)])) rfl rfl (hb hby own_d10_1)
  obtain ⟨fs, hr, hrun, hended, hW, hsame⟩ := X1.leave (v := some (.long mf)) (fun h => by rw [Bd.returns] at h; cases h)
  refine ⟨_, _, pre0 _ ?_, hrun, hended, _, _, rfl, ?_, ⟨_, rfl⟩, hW, hsame.mono (by decide) (by decide)⟩
  · show Steps p.tables e below (s₁.setTop (mkF m 0 #[.val (.ref a)] [])) _
    refine XS.aloadN X0.here hx rfl (hb hby own_d10_0) rfl rfl ?_
    show Steps p.tables e below (s₁.setTop (mkF m 1 #[.val (.ref a)] [(.ref a)])) _
    refine st1 _ ?_
    show Steps p.tables e below (T1.setTop (mkF m 4 #[.val (.ref a)] [(.long mf)])) _
    exact retOut X1 hx (t := .long) Bd.returns rfl (Or.inr (Or.inl ⟨rfl, rfl, _, rfl⟩)) (hb hby own_d10_4) hr
  · show own_Q_own_get_minFree Z a mf h0 n0 _ T1.heap _
    rw [e1]
    exact ⟨rfl, N0, rfl⟩
theorem own_d9_0 : decode prog_9_method_6_code 0 = .ok (.aload_n 0, 1) := by decide +kernel
theorem own_d9_1 : decode prog_9_method_6_code 1 = .ok (.getfield 29, 3) := by decide +kernel
theorem own_d9_4 : decode prog_9_method_6_code 4 = .ok (.lreturn, 1) := by decide +kernel
theorem own_ef9 (m : MethodId) (x0 : Addr) : entryFrame m #[(.ref x0)] 1 = mkF m 0 #[.val (.ref x0)] [] := by first | (simp [entryFrame, mkF, argsToLocals, Value.category]; done) | rfl
def own_Q_own_get_mostCopied (Z : State) (a : Addr) (mc : Int64) (h0 : Heap) (n0 : Nat) (v : Option Value) (h : Heap) (L : List Loc) : Prop := v = some (.long mc) ∧ Fr n0 L ∧ h = h0
set_option maxRecDepth 65536 in
set_option maxHeartbeats 40000000 in
theorem own_get_mostCopied (l : Launch) (Z : State) (a0 : Array Value) (hw : ∀ d ∈ tables_1, d.before a0 Z = true) (ws : List Jvm.Cond) (a : Addr) (mc : Int64) (h0 : Heap) (n0 : Nat) (Z0 : n0 ≤ h0.size) (F : Fld Z h0 a "com/example/idunn/idunn/simulation/Semispaces" "mostCopied" "J" (.long mc)) :
    MetFree l (⟨"com/example/idunn/idunn/simulation/Semispaces", "mostCopied", "()J"⟩ : MethodName) (head1 (Jvm.Cond.code (⟨"com/example/idunn/idunn/simulation/Semispaces", "mostCopied", "()J"⟩ : MethodName) prog_9_method_6_code 1 (some .long) :: ws) ({ frames := 0, cells := 0, slots := 0, locals := 0 } : Room)) (fun as_ U => as_ = #[(.ref a)] ∧ Z.Warmed39 U.vm ∧ U.heap = h0) (fun _ _ _ _ _ => True) (fun _ U o U' => ∃ v L, o = .returned v ∧ own_Q_own_get_mostCopied Z a mc h0 n0 v U'.heap L ∧ FrameEnd U o U' L ({ frames := 0, cells := 0, slots := 0, locals := 0 } : Room).cells ({ frames := 0, cells := 0, slots := 0, locals := 0 } : Room).slots) := by
  refine MetFree.of_bodySF (plainFor_of_name own_pn1) hisR ?_
  intro p e s m args below meth c s₁ Bd hml0 hP hK
  obtain ⟨rfl, hZ, hh⟩ := hP
  have hx := Bd.exec
  have hby := Bd.bytes
  have hml : c.maxLocals = 1 := hml0
  have hown : s.vm.findClass "com/example/idunn/idunn/simulation/Semispaces" = some m.cls := findClass_of_methodNamed Bd.named
  have hnm := (name_of_methodNamed Bd.named Bd.method).1
  have X0 : Stand p l e ({ frames := 0, cells := 0, slots := 0, locals := 0 } : Room) s m #[(.ref a)] below meth c s₁ [] 0 0 := Stand.of_body Bd
  have e0 : s₁.heap = h0 := by rw [← hh, Bd.state]; rfl
  have N0 := Fr.nil n0
  have pre0 : ∀ t, Steps p.tables e below (s₁.setTop (mkF m 0 #[.val (.ref a)] [])) t → Steps p.tables e below (s₁.setTop (entryFrame m #[(.ref a)] 1)) t := fun t k => castTop (own_ef9 m a) k
  obtain ⟨T1, X1, e1, st1⟩ := getF X0 hx hZ hown (host := "") (Or.inl (hw _ (List.mem_of_getElem? (i := 39) rfl))) Via.refl e0 F (g := (mkF m 1 #[.val (.ref a)] [(.ref a)])) rfl rfl (hb hby own_d9_1)
  obtain ⟨fs, hr, hrun, hended, hW, hsame⟩ := X1.leave (v := some (.long mc)) (fun h => by rw [Bd.returns] at h; cases h)
  refine ⟨_, _, pre0 _ ?_, hrun, hended, _, _, rfl, ?_, ⟨_, rfl⟩, hW, hsame.mono (by decide) (by decide)⟩
  · show Steps p.tables e below (s₁.setTop (mkF m 0 #[.val (.ref a)] [])) _
    refine XS.aloadN X0.here hx rfl (hb hby own_d9_0) rfl rfl ?_
    show Steps p.tables e below (s₁.setTop (mkF m 1 #[.val (.ref a)] [(.ref a)])) _
    refine st1 _ ?_
    show Steps p.tables e below (T1.setTop (mkF m 4 #[.val (.ref a)] [(.long mc)])) _
    exact retOut X1 hx (t := .long) Bd.returns rfl (Or.inr (Or.inl ⟨rfl, rfl, _, rfl⟩)) (hb hby own_d9_4) hr
  · show own_Q_own_get_mostCopied Z a mc h0 n0 _ T1.heap _
    rw [e1]
    exact ⟨rfl, N0, rfl⟩
theorem own_pd0 : parseMethodDescriptor "()J" = some ⟨[], some .long⟩ := by decide +kernel
theorem own_pd1 : parseMethodDescriptor "(JJ)J" = some ⟨[.long, .long], some .long⟩ := by decide +kernel
theorem own_d4_0 : decode prog_9_method_3_code 0 = .ok (.lload_n 1, 1) := by decide +kernel
theorem own_d4_1 : decode prog_9_method_3_code 1 = .ok (.aload_n 0, 1) := by decide +kernel
theorem own_d4_2 : decode prog_9_method_3_code 2 = .ok (.invokevirtual 19, 3) := by decide +kernel
theorem own_d4_5 : decode prog_9_method_3_code 5 = .ok (.lcmp, 1) := by decide +kernel
theorem own_d4_6 : decode prog_9_method_3_code 6 = .ok (.ifCond .le 5, 3) := by decide +kernel
theorem own_d4_11 : decode prog_9_method_3_code 11 = .ok (.aload_n 0, 1) := by decide +kernel
theorem own_d4_12 : decode prog_9_method_3_code 12 = .ok (.dup, 1) := by decide +kernel
theorem own_d4_13 : decode prog_9_method_3_code 13 = .ok (.getfield 16, 3) := by decide +kernel
theorem own_d4_16 : decode prog_9_method_3_code 16 = .ok (.lload_n 1, 1) := by decide +kernel
theorem own_d4_17 : decode prog_9_method_3_code 17 = .ok (.ladd, 1) := by decide +kernel
theorem own_d4_18 : decode prog_9_method_3_code 18 = .ok (.putfield 16, 3) := by decide +kernel
theorem own_d4_21 : decode prog_9_method_3_code 21 = .ok (.aload_n 0, 1) := by decide +kernel
theorem own_d4_22 : decode prog_9_method_3_code 22 = .ok (.aload_n 0, 1) := by decide +kernel
theorem own_d4_23 : decode prog_9_method_3_code 23 = .ok (.getfield 13, 3) := by decide +kernel
theorem own_d4_26 : decode prog_9_method_3_code 26 = .ok (.aload_n 0, 1) := by decide +kernel
theorem own_d4_27 : decode prog_9_method_3_code 27 = .ok (.invokevirtual 19, 3) := by decide +kernel
theorem own_d4_30 : decode prog_9_method_3_code 30 = .ok (.invokestatic 23, 3) := by decide +kernel
theorem own_d4_33 : decode prog_9_method_3_code 33 = .ok (.putfield 13, 3) := by decide +kernel
theorem own_d4_36 : decode prog_9_method_3_code 36 = .ok (.iconst 1, 1) := by decide +kernel
theorem own_d4_37 : decode prog_9_method_3_code 37 = .ok (.ireturn, 1) := by decide +kernel
theorem own_ef4 (m : MethodId) (x0 : Addr) (x1 : Int64) : entryFrame m #[(.ref x0), (.long x1)] 3 = mkF m 0 #[.val (.ref x0), .val (.long x1), .second] [] := by first | (simp [entryFrame, mkF, argsToLocals, Value.category]; done) | rfl
def own_Q_own_alloc (Z : State) (a : Addr) (n1 : Int64) (cp : Int64) (us : Int64) (mf : Int64) (mc : Int64) (h0 : Heap) (n0 : Nat) (v : Option Value) (h : Heap) (L : List Loc) : Prop := v = some (.int 1) ∧ Fr n0 L ∧ Keep h0 h [a] ∧ Exa Z h a "com/example/idunn/idunn/simulation/Semispaces" ∧ Fld Z h a "com/example/idunn/idunn/simulation/Semispaces" "capacity" "J" (.long cp) ∧ Fld Z h a "com/example/idunn/idunn/simulation/Semispaces" "used" "J" (.long (us + n1)) ∧ Fld Z h a "com/example/idunn/idunn/simulation/Semispaces" "minFree" "J" (.long (if (cp - (us + n1)) < mf then (cp - (us + n1)) else mf)) ∧ Fld Z h a "com/example/idunn/idunn/simulation/Semispaces" "mostCopied" "J" (.long mc)
set_option maxRecDepth 65536 in
set_option maxHeartbeats 40000000 in
theorem own_alloc (l : Launch) (Z : State) (a0 : Array Value) (hw : ∀ d ∈ tables_1, d.before a0 Z = true) (ws : List Jvm.Cond) (a : Addr) (n1 : Int64) (cp : Int64) (us : Int64) (mf : Int64) (mc : Int64) (h0 : Heap) (n0 : Nat) (Z0 : n0 ≤ h0.size) (E : Exa Z h0 a "com/example/idunn/idunn/simulation/Semispaces") (F_capacity : Fld Z h0 a "com/example/idunn/idunn/simulation/Semispaces" "capacity" "J" (.long cp)) (F_used : Fld Z h0 a "com/example/idunn/idunn/simulation/Semispaces" "used" "J" (.long us)) (F_minFree : Fld Z h0 a "com/example/idunn/idunn/simulation/Semispaces" "minFree" "J" (.long mf)) (F_mostCopied : Fld Z h0 a "com/example/idunn/idunn/simulation/Semispaces" "mostCopied" "J" (.long mc)) (g : n0 ≤ a) (hle : ¬ ((cp - us) < n1)) :
    MetFree l (⟨"com/example/idunn/idunn/simulation/Semispaces", "allocate", "(J)Z"⟩ : MethodName) (head1 (Jvm.Cond.code (⟨"com/example/idunn/idunn/simulation/Semispaces", "allocate", "(J)Z"⟩ : MethodName) prog_9_method_3_code 3 (some .boolean) :: ws) ({ frames := 1, cells := 0, slots := 0, locals := 16 } : Room)) (fun as_ U => as_ = #[(.ref a), (.long n1)] ∧ Z.Warmed39 U.vm ∧ U.heap = h0) (fun _ _ _ _ _ => True) (fun _ U o U' => ∃ v L, o = .returned v ∧ own_Q_own_alloc Z a n1 cp us mf mc h0 n0 v U'.heap L ∧ FrameEnd U o U' L ({ frames := 1, cells := 0, slots := 0, locals := 16 } : Room).cells ({ frames := 1, cells := 0, slots := 0, locals := 16 } : Room).slots) := by
  refine MetFree.of_bodySF (plainFor_of_name own_pn1) hisR ?_
  intro p e s m args below meth c s₁ Bd hml0 hP hK
  obtain ⟨rfl, hZ, hh⟩ := hP
  have hx := Bd.exec
  have hby := Bd.bytes
  have hml : c.maxLocals = 3 := hml0
  have hown : s.vm.findClass "com/example/idunn/idunn/simulation/Semispaces" = some m.cls := findClass_of_methodNamed Bd.named
  have hnm := (name_of_methodNamed Bd.named Bd.method).1
  have X0 : Stand p l e ({ frames := 1, cells := 0, slots := 0, locals := 16 } : Room) s m #[(.ref a), (.long n1)] below meth c s₁ [] 0 0 := Stand.of_body Bd
  have e0 : s₁.heap = h0 := by rw [← hh, Bd.state]; rfl
  have N0 := Fr.nil n0
  have pre0 : ∀ t, Steps p.tables e below (s₁.setTop (mkF m 0 #[.val (.ref a), .val (.long n1), .second] [])) t → Steps p.tables e below (s₁.setTop (entryFrame m #[(.ref a), (.long n1)] 3)) t := fun t k => castTop (own_ef4 m a n1) k
  have KP := Keep.refl h0 ([a] : List Addr)
  obtain ⟨cq1, kq1, q1a, q1b, q1c⟩ := isOf hZ e0 E
  obtain ⟨_, _, ⟨T1, L1, k1, n1⟩, -, X1, ⟨Lc1, hQ1, l1, y1, z1⟩, st1⟩ := X0.virtualBack hx (y := (⟨"com/example/idunn/idunn/simulation/Semispaces", "free", "()J"⟩ : MethodName)) (z := (⟨"com/example/idunn/idunn/simulation/Semispaces", "free", "()J"⟩ : MethodName)) hown (mvT hZ (hw _ (List.mem_of_getElem? (i := 23) rfl))) (mvT hZ (hw _ (List.mem_of_getElem? (i := 24) rfl))) (notFace_of_selects (args := #[]) (mvT hZ (hw _ (List.mem_of_getElem? (i := 26) rfl)))) (mvT hZ (hw _ (List.mem_of_getElem? (i := 26) rfl))) (mvT hZ (hw _ (List.mem_of_getElem? (i := 25) rfl))) (by decide) (backOf (W := 2) (own_free l Z a0 hw [] a cp us h0 n0 Z0 F_capacity F_used) hZ (hw _ (List.mem_of_getElem? (i := 27) rfl)) (hw _ (List.mem_of_getElem? (i := 3) rfl)) (by decide) (by decide)) q1a q1c (g := (mkF m 2 #[.val (.ref a), .val (.long n1), .second] [(.ref a), (.long n1)])) rfl (by rw [hml]; rfl) (Steps.refl _) (argsL := []) (rest := [(.long n1)]) (lenOf own_pd0 rfl) rfl (by show 2 * 0 + _ ≤ _; exact Nat.le_of_eq rfl) (hb hby own_d4_2) (fun _ _ => ⟨rfl, e0, (by decide : 0 + 0 ≤ _), (by decide : 0 + 0 ≤ _)⟩)
  dsimp only [Pt.U, Pt.locs, Pt.cells, Pt.slots] at X1 l1 y1 z1 st1 hQ1
  subst l1 y1 z1
  obtain ⟨rfl, N1q, e1⟩ := hQ1
  have N1 := Fr.app N0 N1q
  obtain ⟨T2, X2, e2, st2⟩ := getF X1 hx hZ hown (host := "") (Or.inl (hw _ (List.mem_of_getElem? (i := 28) rfl))) Via.refl e1 F_used (g := (mkF m 13 #[.val (.ref a), .val (.long n1), .second] [(.ref a), (.ref a)])) rfl rfl (hb hby own_d4_13)
  obtain ⟨T3, h3, X3, e3, W3, st3⟩ := putF X2 hx hZ hown (host := "") (Or.inl (hw _ (List.mem_of_getElem? (i := 28) rfl))) Via.refl e2 F_used E (Or.inl (hw _ (List.mem_of_getElem? (i := 29) rfl))) (hw _ (List.mem_of_getElem? (i := 2) rfl)) (ty := .long) (by decide) rfl rfl (g := (mkF m 18 #[.val (.ref a), .val (.long n1), .second] [(.long (us + n1)), (.ref a)])) rfl rfl (hb hby own_d4_18)
  have E := E.wr W3
  have F_capacity := F_capacity.other W3 (Or.inr (slot_ne (Or.inr (hw _ (List.mem_of_getElem? (i := 11) rfl))) (Or.inl (hw _ (List.mem_of_getElem? (i := 29) rfl))) (by decide) (t := .long) (t' := .long) (by decide) (by decide)))
  have F_minFree := F_minFree.other W3 (Or.inr (slot_ne (Or.inl (hw _ (List.mem_of_getElem? (i := 13) rfl))) (Or.inl (hw _ (List.mem_of_getElem? (i := 29) rfl))) (by decide) (t := .long) (t' := .long) (by decide) (by decide)))
  have F_mostCopied := F_mostCopied.other W3 (Or.inr (slot_ne (Or.inl (hw _ (List.mem_of_getElem? (i := 40) rfl))) (Or.inl (hw _ (List.mem_of_getElem? (i := 29) rfl))) (by decide) (t := .long) (t' := .long) (by decide) (by decide)))
  have Z4 : n0 ≤ h3.size := Nat.le_trans Z0 (Keep.of_wr W3).1
  have KP := KP.wr W3 (Or.inl (List.mem_of_getElem? (i := 0) rfl))
  have F_used := F_used.same W3
  have N3 := Fr.snoc X3 N1 g
  obtain ⟨T5, X5, e5, st5⟩ := getF X3 hx hZ hown (host := "") (Or.inl (hw _ (List.mem_of_getElem? (i := 12) rfl))) Via.refl e3 F_minFree (g := (mkF m 23 #[.val (.ref a), .val (.long n1), .second] [(.ref a), (.ref a)])) rfl rfl (hb hby own_d4_23)
  obtain ⟨cq6, kq6, q6a, q6b, q6c⟩ := isOf hZ e5 E
  obtain ⟨_, _, ⟨T6, L6, k6, n6⟩, -, X6, ⟨Lc6, hQ6, l6, y6, z6⟩, st6⟩ := X5.virtualBack hx (y := (⟨"com/example/idunn/idunn/simulation/Semispaces", "free", "()J"⟩ : MethodName)) (z := (⟨"com/example/idunn/idunn/simulation/Semispaces", "free", "()J"⟩ : MethodName)) hown (mvT hZ (hw _ (List.mem_of_getElem? (i := 23) rfl))) (mvT hZ (hw _ (List.mem_of_getElem? (i := 24) rfl))) (notFace_of_selects (args := #[]) (mvT hZ (hw _ (List.mem_of_getElem? (i := 26) rfl)))) (mvT hZ (hw _ (List.mem_of_getElem? (i := 26) rfl))) (mvT hZ (hw _ (List.mem_of_getElem? (i := 25) rfl))) (by decide) (backOf (W := 3) (own_free l Z a0 hw [] a cp (us + n1) h3 n0 Z4 F_capacity F_used) hZ (hw _ (List.mem_of_getElem? (i := 27) rfl)) (hw _ (List.mem_of_getElem? (i := 3) rfl)) (by decide) (by decide)) q6a q6c (g := (mkF m 27 #[.val (.ref a), .val (.long n1), .second] [(.ref a), (.long mf), (.ref a)])) rfl (by rw [hml]; rfl) (Steps.refl _) (argsL := []) (rest := [(.long mf), (.ref a)]) (lenOf own_pd0 rfl) rfl (by show 2 * 0 + _ ≤ _; exact Nat.le_of_eq rfl) (hb hby own_d4_27) (fun _ _ => ⟨rfl, e5, (by decide : 0 + 0 ≤ _), (by decide : 0 + 0 ≤ _)⟩)
  dsimp only [Pt.U, Pt.locs, Pt.cells, Pt.slots] at X6 l6 y6 z6 st6 hQ6
  subst l6 y6 z6
  obtain ⟨rfl, N6q, e6⟩ := hQ6
  have N6 := Fr.app N3 N6q
  obtain ⟨_, _, ⟨T7, L7, k7, n7⟩, -, X7, ⟨Lc7, hQ7, l7, y7, z7⟩, st7⟩ := Jvm.LawKit.callS X6 hx (y := (⟨"java/lang/Math", "min", "(JJ)J"⟩ : MethodName)) hown (mvT hZ (hw _ (List.mem_of_getElem? (i := 30) rfl))) (mvT hZ (hw _ (List.mem_of_getElem? (i := 31) rfl))) (mvT hZ (hw _ (List.mem_of_getElem? (i := 32) rfl))) (mvT hZ (hw _ (List.mem_of_getElem? (i := 33) rfl))) (by decide) (backOf (W := 1) (own_min l Z a0 hw [] mf (cp - (us + n1))  h3 n0 Z4 ) hZ (hw _ (List.mem_of_getElem? (i := 33) rfl)) (hw _ (List.mem_of_getElem? (i := 32) rfl)) (by decide) (by decide)) (g := (mkF m 30 #[.val (.ref a), .val (.long n1), .second] [(.long (cp - (us + n1))), (.long mf), (.ref a)])) rfl (by rw [hml]; rfl) (argsL := [(.long mf), (.long (cp - (us + n1)))]) (rest := [(.ref a)]) (lenOf own_pd1 rfl) rfl (by show 2 * 0 + _ ≤ _; exact Nat.le_of_eq rfl) (hb hby own_d4_30) (fun _ _ => ⟨rfl, e6, (by decide : 0 + 0 ≤ _), (by decide : 0 + 0 ≤ _)⟩)
  dsimp only [Pt.U, Pt.locs, Pt.cells, Pt.slots] at X7 l7 y7 z7 st7 hQ7
  subst l7 y7 z7
  obtain ⟨rfl, N7q, e7⟩ := hQ7
  have N7 := Fr.app N6 N7q
  obtain ⟨T8, h8, X8, e8, W8, st8⟩ := putF X7 hx hZ hown (host := "") (Or.inl (hw _ (List.mem_of_getElem? (i := 12) rfl))) Via.refl e7 F_minFree E (Or.inl (hw _ (List.mem_of_getElem? (i := 13) rfl))) (hw _ (List.mem_of_getElem? (i := 2) rfl)) (ty := .long) (by decide) rfl rfl (g := (mkF m 33 #[.val (.ref a), .val (.long n1), .second] [(.long (if (cp - (us + n1)) < mf then (cp - (us + n1)) else mf)), (.ref a)])) rfl rfl (hb hby own_d4_33)
  have E := E.wr W8
  have F_capacity := F_capacity.other W8 (Or.inr (slot_ne (Or.inr (hw _ (List.mem_of_getElem? (i := 11) rfl))) (Or.inl (hw _ (List.mem_of_getElem? (i := 13) rfl))) (by decide) (t := .long) (t' := .long) (by decide) (by decide)))
  have F_used := F_used.other W8 (Or.inr (slot_ne (Or.inl (hw _ (List.mem_of_getElem? (i := 29) rfl))) (Or.inl (hw _ (List.mem_of_getElem? (i := 13) rfl))) (by decide) (t := .long) (t' := .long) (by decide) (by decide)))
  have F_mostCopied := F_mostCopied.other W8 (Or.inr (slot_ne (Or.inl (hw _ (List.mem_of_getElem? (i := 40) rfl))) (Or.inl (hw _ (List.mem_of_getElem? (i := 13) rfl))) (by decide) (t := .long) (t' := .long) (by decide) (by decide)))
  have Z9 : n0 ≤ h8.size := Nat.le_trans Z4 (Keep.of_wr W8).1
  have KP := KP.wr W8 (Or.inl (List.mem_of_getElem? (i := 0) rfl))
  have F_minFree := F_minFree.same W8
  have N8 := Fr.snoc X8 N7 g
  obtain ⟨fs, hr, hrun, hended, hW, hsame⟩ := X8.leave (v := some (.int (1 : Int32))) (fun h => by rw [Bd.returns] at h; cases h)
  refine ⟨_, _, pre0 _ ?_, hrun, hended, _, _, rfl, ?_, ⟨_, rfl⟩, hW, hsame.mono (by decide) (by decide)⟩
  · show Steps p.tables e below (s₁.setTop (mkF m 0 #[.val (.ref a), .val (.long n1), .second] [])) _
    refine XS.lloadN X0.here hx rfl (hb hby own_d4_0) rfl ?_
    show Steps p.tables e below (s₁.setTop (mkF m 1 #[.val (.ref a), .val (.long n1), .second] [(.long n1)])) _
    refine XS.aloadN X0.here hx rfl (hb hby own_d4_1) rfl rfl ?_
    show Steps p.tables e below (s₁.setTop (mkF m 2 #[.val (.ref a), .val (.long n1), .second] [(.ref a), (.long n1)])) _
    refine st1.trans ?_
    show Steps p.tables e below (T1.setTop (mkF m 5 #[.val (.ref a), .val (.long n1), .second] [(.long (cp - us)), (.long n1)])) _
    refine XS.lcmp X1.here hx rfl (hb hby own_d4_5) rfl ?_
    show Steps p.tables e below (T1.setTop (mkF m 6 #[.val (.ref a), .val (.long n1), .second] [(.int (lcmpW n1 (cp - us)))])) _
    refine XS.ifYes X1.here hx rfl (pc0 := 6) (pc' := 11) rfl (hb hby own_d4_6) rfl ((if0 _ _).trans (flt (fun q => (hle : ¬ ((cp - us) < n1)) ((lw_gt _ _).mp q))).2.2.2) (by decide) (by decide) ?_
    show Steps p.tables e below (T1.setTop (mkF m 11 #[.val (.ref a), .val (.long n1), .second] [])) _
    refine XS.aloadN X1.here hx rfl (hb hby own_d4_11) rfl rfl ?_
    show Steps p.tables e below (T1.setTop (mkF m 12 #[.val (.ref a), .val (.long n1), .second] [(.ref a)])) _
    refine XS.dup X1.here hx rfl (hb hby own_d4_12) rfl rfl ?_
    show Steps p.tables e below (T1.setTop (mkF m 13 #[.val (.ref a), .val (.long n1), .second] [(.ref a), (.ref a)])) _
    refine st2 _ ?_
    show Steps p.tables e below (T2.setTop (mkF m 16 #[.val (.ref a), .val (.long n1), .second] [(.long us), (.ref a)])) _
    refine XS.lloadN X2.here hx rfl (hb hby own_d4_16) rfl ?_
    show Steps p.tables e below (T2.setTop (mkF m 17 #[.val (.ref a), .val (.long n1), .second] [(.long n1), (.long us), (.ref a)])) _
    refine XS.ladd X2.here hx rfl (hb hby own_d4_17) rfl ?_
    show Steps p.tables e below (T2.setTop (mkF m 18 #[.val (.ref a), .val (.long n1), .second] [(.long (us + n1)), (.ref a)])) _
    refine st3 _ ?_
    show Steps p.tables e below (T3.setTop (mkF m 21 #[.val (.ref a), .val (.long n1), .second] [])) _
    refine XS.aloadN X3.here hx rfl (hb hby own_d4_21) rfl rfl ?_
    show Steps p.tables e below (T3.setTop (mkF m 22 #[.val (.ref a), .val (.long n1), .second] [(.ref a)])) _
    refine XS.aloadN X3.here hx rfl (hb hby own_d4_22) rfl rfl ?_
    show Steps p.tables e below (T3.setTop (mkF m 23 #[.val (.ref a), .val (.long n1), .second] [(.ref a), (.ref a)])) _
    refine st5 _ ?_
    show Steps p.tables e below (T5.setTop (mkF m 26 #[.val (.ref a), .val (.long n1), .second] [(.long mf), (.ref a)])) _
    refine XS.aloadN X5.here hx rfl (hb hby own_d4_26) rfl rfl ?_
    show Steps p.tables e below (T5.setTop (mkF m 27 #[.val (.ref a), .val (.long n1), .second] [(.ref a), (.long mf), (.ref a)])) _
    refine st6.trans ?_
    show Steps p.tables e below (T6.setTop (mkF m 30 #[.val (.ref a), .val (.long n1), .second] [(.long (cp - (us + n1))), (.long mf), (.ref a)])) _
    refine st7 _ ?_
    show Steps p.tables e below (T7.setTop (mkF m 33 #[.val (.ref a), .val (.long n1), .second] [(.long (if (cp - (us + n1)) < mf then (cp - (us + n1)) else mf)), (.ref a)])) _
    refine st8 _ ?_
    show Steps p.tables e below (T8.setTop (mkF m 36 #[.val (.ref a), .val (.long n1), .second] [])) _
    refine XS.iconst X8.here hx rfl (hb hby own_d4_36) ?_
    show Steps p.tables e below (T8.setTop (mkF m 37 #[.val (.ref a), .val (.long n1), .second] [(.int (1 : Int32))])) _
    exact retN X8 hx (t := .boolean) Bd.returns (by simp) (hb hby own_d4_37) hr
  · show own_Q_own_alloc Z a n1 cp us mf mc h0 n0 _ T8.heap _
    rw [e8]
    exact ⟨rfl, N8, KP, E, F_capacity, F_used, F_minFree, F_mostCopied⟩
theorem own_d7_0 : decode prog_9_method_4_code 0 = .ok (.aload_n 0, 1) := by decide +kernel
theorem own_d7_1 : decode prog_9_method_4_code 1 = .ok (.lload_n 1, 1) := by decide +kernel
theorem own_d7_2 : decode prog_9_method_4_code 2 = .ok (.putfield 16, 3) := by decide +kernel
theorem own_d7_5 : decode prog_9_method_4_code 5 = .ok (.aload_n 0, 1) := by decide +kernel
theorem own_d7_6 : decode prog_9_method_4_code 6 = .ok (.aload_n 0, 1) := by decide +kernel
theorem own_d7_7 : decode prog_9_method_4_code 7 = .ok (.getfield 29, 3) := by decide +kernel
theorem own_d7_10 : decode prog_9_method_4_code 10 = .ok (.lload_n 1, 1) := by decide +kernel
theorem own_d7_11 : decode prog_9_method_4_code 11 = .ok (.invokestatic 32, 3) := by decide +kernel
theorem own_d7_14 : decode prog_9_method_4_code 14 = .ok (.putfield 29, 3) := by decide +kernel
theorem own_d7_17 : decode prog_9_method_4_code 17 = .ok (.return_, 1) := by decide +kernel
theorem own_ef7 (m : MethodId) (x0 : Addr) (x1 : Int64) : entryFrame m #[(.ref x0), (.long x1)] 3 = mkF m 0 #[.val (.ref x0), .val (.long x1), .second] [] := by first | (simp [entryFrame, mkF, argsToLocals, Value.category]; done) | rfl
def own_Q_own_flip (Z : State) (a : Addr) (n1 : Int64) (cp : Int64) (us : Int64) (mf : Int64) (mc : Int64) (h0 : Heap) (n0 : Nat) (v : Option Value) (h : Heap) (L : List Loc) : Prop := v = none ∧ Fr n0 L ∧ Keep h0 h [a] ∧ Exa Z h a "com/example/idunn/idunn/simulation/Semispaces" ∧ Fld Z h a "com/example/idunn/idunn/simulation/Semispaces" "capacity" "J" (.long cp) ∧ Fld Z h a "com/example/idunn/idunn/simulation/Semispaces" "used" "J" (.long n1) ∧ Fld Z h a "com/example/idunn/idunn/simulation/Semispaces" "minFree" "J" (.long mf) ∧ Fld Z h a "com/example/idunn/idunn/simulation/Semispaces" "mostCopied" "J" (.long (if mc < n1 then n1 else mc))
set_option maxRecDepth 65536 in
set_option maxHeartbeats 40000000 in
theorem own_flip (l : Launch) (Z : State) (a0 : Array Value) (hw : ∀ d ∈ tables_1, d.before a0 Z = true) (ws : List Jvm.Cond) (a : Addr) (n1 : Int64) (cp : Int64) (us : Int64) (mf : Int64) (mc : Int64) (h0 : Heap) (n0 : Nat) (Z0 : n0 ≤ h0.size) (E : Exa Z h0 a "com/example/idunn/idunn/simulation/Semispaces") (F_capacity : Fld Z h0 a "com/example/idunn/idunn/simulation/Semispaces" "capacity" "J" (.long cp)) (F_used : Fld Z h0 a "com/example/idunn/idunn/simulation/Semispaces" "used" "J" (.long us)) (F_minFree : Fld Z h0 a "com/example/idunn/idunn/simulation/Semispaces" "minFree" "J" (.long mf)) (F_mostCopied : Fld Z h0 a "com/example/idunn/idunn/simulation/Semispaces" "mostCopied" "J" (.long mc)) (g : n0 ≤ a) :
    MetFree l (⟨"com/example/idunn/idunn/simulation/Semispaces", "flip", "(J)V"⟩ : MethodName) (head1 (Jvm.Cond.code (⟨"com/example/idunn/idunn/simulation/Semispaces", "flip", "(J)V"⟩ : MethodName) prog_9_method_4_code 3 none :: ws) ({ frames := 1, cells := 0, slots := 0, locals := 16 } : Room)) (fun as_ U => as_ = #[(.ref a), (.long n1)] ∧ Z.Warmed39 U.vm ∧ U.heap = h0) (fun _ _ _ _ _ => True) (fun _ U o U' => ∃ v L, o = .returned v ∧ own_Q_own_flip Z a n1 cp us mf mc h0 n0 v U'.heap L ∧ FrameEnd U o U' L ({ frames := 1, cells := 0, slots := 0, locals := 16 } : Room).cells ({ frames := 1, cells := 0, slots := 0, locals := 16 } : Room).slots) := by
  refine MetFree.of_bodySF (plainFor_of_name own_pn1) hisR ?_
  intro p e s m args below meth c s₁ Bd hml0 hP hK
  obtain ⟨rfl, hZ, hh⟩ := hP
  have hx := Bd.exec
  have hby := Bd.bytes
  have hml : c.maxLocals = 3 := hml0
  have hown : s.vm.findClass "com/example/idunn/idunn/simulation/Semispaces" = some m.cls := findClass_of_methodNamed Bd.named
  have hnm := (name_of_methodNamed Bd.named Bd.method).1
  have X0 : Stand p l e ({ frames := 1, cells := 0, slots := 0, locals := 16 } : Room) s m #[(.ref a), (.long n1)] below meth c s₁ [] 0 0 := Stand.of_body Bd
  have e0 : s₁.heap = h0 := by rw [← hh, Bd.state]; rfl
  have N0 := Fr.nil n0
  have pre0 : ∀ t, Steps p.tables e below (s₁.setTop (mkF m 0 #[.val (.ref a), .val (.long n1), .second] [])) t → Steps p.tables e below (s₁.setTop (entryFrame m #[(.ref a), (.long n1)] 3)) t := fun t k => castTop (own_ef7 m a n1) k
  have KP := Keep.refl h0 ([a] : List Addr)
  obtain ⟨T1, h1, X1, e1, W1, st1⟩ := putF X0 hx hZ hown (host := "") (Or.inl (hw _ (List.mem_of_getElem? (i := 28) rfl))) Via.refl e0 F_used E (Or.inl (hw _ (List.mem_of_getElem? (i := 29) rfl))) (hw _ (List.mem_of_getElem? (i := 2) rfl)) (ty := .long) (by decide) rfl rfl (g := (mkF m 2 #[.val (.ref a), .val (.long n1), .second] [(.long n1), (.ref a)])) rfl rfl (hb hby own_d7_2)
  have E := E.wr W1
  have F_capacity := F_capacity.other W1 (Or.inr (slot_ne (Or.inr (hw _ (List.mem_of_getElem? (i := 11) rfl))) (Or.inl (hw _ (List.mem_of_getElem? (i := 29) rfl))) (by decide) (t := .long) (t' := .long) (by decide) (by decide)))
  have F_minFree := F_minFree.other W1 (Or.inr (slot_ne (Or.inl (hw _ (List.mem_of_getElem? (i := 13) rfl))) (Or.inl (hw _ (List.mem_of_getElem? (i := 29) rfl))) (by decide) (t := .long) (t' := .long) (by decide) (by decide)))
  have F_mostCopied := F_mostCopied.other W1 (Or.inr (slot_ne (Or.inl (hw _ (List.mem_of_getElem? (i := 40) rfl))) (Or.inl (hw _ (List.mem_of_getElem? (i := 29) rfl))) (by decide) (t := .long) (t' := .long) (by decide) (by decide)))
  have Z2 : n0 ≤ h1.size := Nat.le_trans Z0 (Keep.of_wr W1).1
  have KP := KP.wr W1 (Or.inl (List.mem_of_getElem? (i := 0) rfl))
  have F_used := F_used.same W1
  have N1 := Fr.snoc X1 N0 g
  obtain ⟨T3, X3, e3, st3⟩ := getF X1 hx hZ hown (host := "") (Or.inl (hw _ (List.mem_of_getElem? (i := 39) rfl))) Via.refl e1 F_mostCopied (g := (mkF m 7 #[.val (.ref a), .val (.long n1), .second] [(.ref a), (.ref a)])) rfl rfl (hb hby own_d7_7)
  obtain ⟨_, _, ⟨T4, L4, k4, n4⟩, -, X4, ⟨Lc4, hQ4, l4, y4, z4⟩, st4⟩ := Jvm.LawKit.callS X3 hx (y := (⟨"java/lang/Math", "max", "(JJ)J"⟩ : MethodName)) hown (mvT hZ (hw _ (List.mem_of_getElem? (i := 41) rfl))) (mvT hZ (hw _ (List.mem_of_getElem? (i := 42) rfl))) (mvT hZ (hw _ (List.mem_of_getElem? (i := 32) rfl))) (mvT hZ (hw _ (List.mem_of_getElem? (i := 43) rfl))) (by decide) (backOf (W := 1) (own_max l Z a0 hw [] mc n1  h1 n0 Z2 ) hZ (hw _ (List.mem_of_getElem? (i := 43) rfl)) (hw _ (List.mem_of_getElem? (i := 32) rfl)) (by decide) (by decide)) (g := (mkF m 11 #[.val (.ref a), .val (.long n1), .second] [(.long n1), (.long mc), (.ref a)])) rfl (by rw [hml]; rfl) (argsL := [(.long mc), (.long n1)]) (rest := [(.ref a)]) (lenOf own_pd1 rfl) rfl (by show 2 * 0 + _ ≤ _; exact Nat.le_of_eq rfl) (hb hby own_d7_11) (fun _ _ => ⟨rfl, e3, (by decide : 0 + 0 ≤ _), (by decide : 0 + 0 ≤ _)⟩)
  dsimp only [Pt.U, Pt.locs, Pt.cells, Pt.slots] at X4 l4 y4 z4 st4 hQ4
  subst l4 y4 z4
  obtain ⟨rfl, N4q, e4⟩ := hQ4
  have N4 := Fr.app N1 N4q
  obtain ⟨T5, h5, X5, e5, W5, st5⟩ := putF X4 hx hZ hown (host := "") (Or.inl (hw _ (List.mem_of_getElem? (i := 39) rfl))) Via.refl e4 F_mostCopied E (Or.inl (hw _ (List.mem_of_getElem? (i := 40) rfl))) (hw _ (List.mem_of_getElem? (i := 2) rfl)) (ty := .long) (by decide) rfl rfl (g := (mkF m 14 #[.val (.ref a), .val (.long n1), .second] [(.long (if mc < n1 then n1 else mc)), (.ref a)])) rfl rfl (hb hby own_d7_14)
  have E := E.wr W5
  have F_capacity := F_capacity.other W5 (Or.inr (slot_ne (Or.inr (hw _ (List.mem_of_getElem? (i := 11) rfl))) (Or.inl (hw _ (List.mem_of_getElem? (i := 40) rfl))) (by decide) (t := .long) (t' := .long) (by decide) (by decide)))
  have F_used := F_used.other W5 (Or.inr (slot_ne (Or.inl (hw _ (List.mem_of_getElem? (i := 29) rfl))) (Or.inl (hw _ (List.mem_of_getElem? (i := 40) rfl))) (by decide) (t := .long) (t' := .long) (by decide) (by decide)))
  have F_minFree := F_minFree.other W5 (Or.inr (slot_ne (Or.inl (hw _ (List.mem_of_getElem? (i := 13) rfl))) (Or.inl (hw _ (List.mem_of_getElem? (i := 40) rfl))) (by decide) (t := .long) (t' := .long) (by decide) (by decide)))
  have Z6 : n0 ≤ h5.size := Nat.le_trans Z2 (Keep.of_wr W5).1
  have KP := KP.wr W5 (Or.inl (List.mem_of_getElem? (i := 0) rfl))
  have F_mostCopied := F_mostCopied.same W5
  have N5 := Fr.snoc X5 N4 g
  obtain ⟨fs, hr, hrun, hended, hW, hsame⟩ := X5.leave (v := none) (fun _ => rfl)
  refine ⟨_, _, pre0 _ ?_, hrun, hended, _, _, rfl, ?_, ⟨_, rfl⟩, hW, hsame.mono (by decide) (by decide)⟩
  · show Steps p.tables e below (s₁.setTop (mkF m 0 #[.val (.ref a), .val (.long n1), .second] [])) _
    refine XS.aloadN X0.here hx rfl (hb hby own_d7_0) rfl rfl ?_
    show Steps p.tables e below (s₁.setTop (mkF m 1 #[.val (.ref a), .val (.long n1), .second] [(.ref a)])) _
    refine XS.lloadN X0.here hx rfl (hb hby own_d7_1) rfl ?_
    show Steps p.tables e below (s₁.setTop (mkF m 2 #[.val (.ref a), .val (.long n1), .second] [(.long n1), (.ref a)])) _
    refine st1 _ ?_
    show Steps p.tables e below (T1.setTop (mkF m 5 #[.val (.ref a), .val (.long n1), .second] [])) _
    refine XS.aloadN X1.here hx rfl (hb hby own_d7_5) rfl rfl ?_
    show Steps p.tables e below (T1.setTop (mkF m 6 #[.val (.ref a), .val (.long n1), .second] [(.ref a)])) _
    refine XS.aloadN X1.here hx rfl (hb hby own_d7_6) rfl rfl ?_
    show Steps p.tables e below (T1.setTop (mkF m 7 #[.val (.ref a), .val (.long n1), .second] [(.ref a), (.ref a)])) _
    refine st3 _ ?_
    show Steps p.tables e below (T3.setTop (mkF m 10 #[.val (.ref a), .val (.long n1), .second] [(.long mc), (.ref a)])) _
    refine XS.lloadN X3.here hx rfl (hb hby own_d7_10) rfl ?_
    show Steps p.tables e below (T3.setTop (mkF m 11 #[.val (.ref a), .val (.long n1), .second] [(.long n1), (.long mc), (.ref a)])) _
    refine st4 _ ?_
    show Steps p.tables e below (T4.setTop (mkF m 14 #[.val (.ref a), .val (.long n1), .second] [(.long (if mc < n1 then n1 else mc)), (.ref a)])) _
    refine st5 _ ?_
    show Steps p.tables e below (T5.setTop (mkF m 17 #[.val (.ref a), .val (.long n1), .second] [])) _
    exact X5.returnOut hx Bd.returns (hb hby own_d7_17) hr
  · show own_Q_own_flip Z a n1 cp us mf mc h0 n0 _ T5.heap _
    rw [e5]
    exact ⟨rfl, N5, KP, E, F_capacity, F_used, F_minFree, F_mostCopied⟩
theorem own_pd2 : parseMethodDescriptor "(J)V" = some ⟨[.long], none⟩ := by decide +kernel
theorem own_pd3 : parseMethodDescriptor "(J)Z" = some ⟨[.long], some .boolean⟩ := by decide +kernel
theorem own_ef0 (m : MethodId) (x0 : Int64) (x1 : Int64) (x2 : Int64) (x3 : Int64) (x4 : Int64) : entryFrame m #[(.long x0), (.long x1), (.long x2), (.long x3), (.long x4)] maxLocals = mkF m 0 #[.val (.long x0), .second, .val (.long x1), .second, .val (.long x2), .second, .val (.long x3), .second, .val (.long x4), .second, .unset, .unset, .unset, .unset, .unset, .unset, .unset, .unset, .unset, .unset, .unset, .unset, .unset, .unset, .unset, .unset, .unset] [] := by first | (simp [entryFrame, mkF, argsToLocals, Value.category, maxLocals]; done) | rfl
def own_Q_own_law (Z : State) (x1 : Int64) (x2 : Int64) (x3 : Int64) (x4 : Int64) (x5 : Int64) (h0 : Heap) (n0 : Nat) (v : Option Value) (h : Heap) (L : List Loc) : Prop := v = some (.int 1) ∧ Fr n0 L
set_option maxRecDepth 65536 in
set_option maxHeartbeats 40000000 in
theorem own_law (l : Launch) (Z : State) (a0 : Array Value) (hw : ∀ d ∈ tables_1, d.before a0 Z = true) (ws : List Jvm.Cond) (x1 : Int64) (x2 : Int64) (x3 : Int64) (x4 : Int64) (x5 : Int64) (h0 : Heap) (n0 : Nat) (Z0 : n0 ≤ h0.size) :
    MetFree l x (head1 (Jvm.Cond.code x code maxLocals ret :: ws) room_1) (fun as_ U => as_ = #[(.long x1), (.long x2), (.long x3), (.long x4), (.long x5)] ∧ Z.Warmed39 U.vm ∧ U.heap = h0) (fun _ _ _ _ _ => True) (fun _ U o U' => ∃ v L, o = .returned v ∧ own_Q_own_law Z x1 x2 x3 x4 x5 h0 n0 v U'.heap L ∧ FrameEnd U o U' L room_1.cells room_1.slots) := by
  refine MetFree.of_bodySF (plainFor_of_name own_pn0) hisR ?_
  intro p e s m args below meth c s₁ Bd hml0 hP hK
  obtain ⟨rfl, hZ, hh⟩ := hP
  have hx := Bd.exec
  have hby := Bd.bytes
  have hml : c.maxLocals = 27 := hml0
  have hown : s.vm.findClass "com/example/idunn/idunn/simulation/SemispacesFlipPinLaw" = some m.cls := findClass_of_methodNamed Bd.named
  have hnm := (name_of_methodNamed Bd.named Bd.method).1
  have X0 : Stand p l e room_1 s m #[(.long x1), (.long x2), (.long x3), (.long x4), (.long x5)] below meth c s₁ [] 0 0 := Stand.of_body Bd
  have e0 : s₁.heap = h0 := by rw [← hh, Bd.state]; rfl
  have N0 := Fr.nil n0
  have pre0 : ∀ t, Steps p.tables e below (s₁.setTop (mkF m 0 #[.val (.long x1), .second, .val (.long x2), .second, .val (.long x3), .second, .val (.long x4), .second, .val (.long x5), .second, .unset, .unset, .unset, .unset, .unset, .unset, .unset, .unset, .unset, .unset, .unset, .unset, .unset, .unset, .unset, .unset, .unset] [])) t → Steps p.tables e below (s₁.setTop (entryFrame m #[(.long x1), (.long x2), (.long x3), (.long x4), (.long x5)] maxLocals)) t := fun t k => castTop (own_ef0 m x1 x2 x3 x4 x5) k
  obtain ⟨T1, h1, X1, e1, E1, A1, D1, -, st1⟩ := newO X0 hx hZ hown (hw _ (List.mem_of_getElem? (i := 1) rfl)) (hw _ (List.mem_of_getElem? (i := 2) rfl)) (hw _ (List.mem_of_getElem? (i := 3) rfl)) e0 (g := (mkF m 7 #[.val (.long x1), .second, .val (.long x2), .second, .val (.long x3), .second, .val (.long x4), .second, .val (.long x5), .second, .val (.long (x1 &&& (9223372036854775807 : Int64))), .second, .unset, .unset, .unset, .unset, .unset, .unset, .unset, .unset, .unset, .unset, .unset, .unset, .unset, .unset, .unset] [])) rfl (hb hby at_7) (by decide) (by decide)
  obtain ⟨b1, g1⟩ : ∃ z, z = h0.size := ⟨_, rfl⟩
  rw [← g1] at A1 D1 st1
  have g_b1 : n0 ≤ b1 := Nat.le_trans Z0 (Nat.le_of_eq g1.symm)
  have Z2 : n0 ≤ h1.size := Nat.le_trans Z0 E1.1
  have F_capacity_b1 : Fld Z h1 b1 "com/example/idunn/idunn/simulation/Semispaces" "capacity" "J" (.long (0 : Int64)) := D1 (Or.inr (hw _ (List.mem_of_getElem? (i := 11) rfl))) (ty := .long) (by decide)
  have F_minFree_b1 : Fld Z h1 b1 "com/example/idunn/idunn/simulation/Semispaces" "minFree" "J" (.long (0 : Int64)) := D1 (Or.inl (hw _ (List.mem_of_getElem? (i := 13) rfl))) (ty := .long) (by decide)
  have F_used_b1 : Fld Z h1 b1 "com/example/idunn/idunn/simulation/Semispaces" "used" "J" (.long (0 : Int64)) := D1 (Or.inl (hw _ (List.mem_of_getElem? (i := 29) rfl))) (ty := .long) (by decide)
  have F_mostCopied_b1 : Fld Z h1 b1 "com/example/idunn/idunn/simulation/Semispaces" "mostCopied" "J" (.long (0 : Int64)) := D1 (Or.inl (hw _ (List.mem_of_getElem? (i := 40) rfl))) (ty := .long) (by decide)
  have E_b1 := A1
  obtain ⟨_, _, ⟨T3, L3, k3, n3⟩, -, X3, ⟨Lc3, hQ3, l3, y3, z3⟩, st3⟩ := X1.specialBack hx (y := (⟨"com/example/idunn/idunn/simulation/Semispaces", "<init>", "(J)V"⟩ : MethodName)) rfl hown (mvT hZ (hw _ (List.mem_of_getElem? (i := 4) rfl))) (mvT hZ (hw _ (List.mem_of_getElem? (i := 5) rfl))) (mvT hZ (hw _ (List.mem_of_getElem? (i := 6) rfl))) (by decide) (backOf (W := 1) (own_init l Z a0 hw [] b1 (x1 &&& (9223372036854775807 : Int64))  h1 n0 Z2 E_b1 F_capacity_b1 F_used_b1 F_minFree_b1 F_mostCopied_b1 g_b1) hZ (hw _ (List.mem_of_getElem? (i := 6) rfl)) (hw _ (List.mem_of_getElem? (i := 3) rfl)) (by decide) (by decide)) (g := (mkF m 13 #[.val (.long x1), .second, .val (.long x2), .second, .val (.long x3), .second, .val (.long x4), .second, .val (.long x5), .second, .val (.long (x1 &&& (9223372036854775807 : Int64))), .second, .unset, .unset, .unset, .unset, .unset, .unset, .unset, .unset, .unset, .unset, .unset, .unset, .unset, .unset, .unset] [(.long (x1 &&& (9223372036854775807 : Int64))), (.ref b1), (.ref b1)])) rfl (by rw [hml]; rfl) (Steps.refl _) (a := b1) (argsL := [(.long (x1 &&& (9223372036854775807 : Int64)))]) (rest := [(.ref b1)]) (lenOf own_pd2 rfl) rfl (by show 2 * 0 + _ ≤ _; exact Nat.le_of_eq rfl) (hb hby at_13) (fun _ _ => ⟨rfl, e1, (by decide : 1 + 0 ≤ _), (by decide : 4 + 0 ≤ _)⟩)
  dsimp only [Pt.U, Pt.locs, Pt.cells, Pt.slots] at X3 l3 y3 z3 st3 hQ3
  subst l3 y3 z3
  obtain ⟨rfl, N3q, K3, Ee3, F0_3, F1_3, F2_3, F3_3⟩ := hQ3
  have N3 := Fr.app N0 N3q
  have E_b1 := E_b1.keep K3
  have Z4 := Nat.le_trans Z2 K3.1
  obtain ⟨_, _, ⟨T5, L5, k5, n5⟩, -, X5, ⟨Lc5, hQ5, l5, y5, z5⟩, st5⟩ := Jvm.LawKit.callS X3 hx (y := (⟨"com/example/idunn/idunn/simulation/SemispacesFlipPinLaw", "upTo", "(JJ)J"⟩ : MethodName)) hown (mvT hZ (hw _ (List.mem_of_getElem? (i := 14) rfl))) (mvT hZ (hw _ (List.mem_of_getElem? (i := 15) rfl))) (mvT hZ (hw _ (List.mem_of_getElem? (i := 16) rfl))) (mvT hZ (hw _ (List.mem_of_getElem? (i := 17) rfl))) (by decide) (backOf (W := 0) (own_up l Z a0 hw [] x2 (x1 &&& (9223372036854775807 : Int64))  T3.heap n0 Z4 (own_land x1)) hZ (hw _ (List.mem_of_getElem? (i := 17) rfl)) (hw _ (List.mem_of_getElem? (i := 16) rfl)) (by decide) (by decide)) (g := (mkF m 21 #[.val (.long x1), .second, .val (.long x2), .second, .val (.long x3), .second, .val (.long x4), .second, .val (.long x5), .second, .val (.long (x1 &&& (9223372036854775807 : Int64))), .second, .val (.ref b1), .unset, .unset, .unset, .unset, .unset, .unset, .unset, .unset, .unset, .unset, .unset, .unset, .unset, .unset] [(.long (x1 &&& (9223372036854775807 : Int64))), (.long x2)])) rfl (by rw [hml]; rfl) (argsL := [(.long x2), (.long (x1 &&& (9223372036854775807 : Int64)))]) (rest := []) (lenOf own_pd1 rfl) rfl (by show 2 * 0 + _ ≤ _; exact Nat.le_of_eq rfl) (hb hby at_21) (fun _ _ => ⟨rfl, rfl, (by decide : 1 + 0 ≤ _), (by decide : 4 + 0 ≤ _)⟩)
  dsimp only [Pt.U, Pt.locs, Pt.cells, Pt.slots] at X5 l5 y5 z5 st5 hQ5
  subst l5 y5 z5
  obtain ⟨r0, rfl, N5q, e5, hu0⟩ := hQ5
  have N5 := Fr.app N3 N5q
  obtain ⟨cq6, kq6, q6a, q6b, q6c⟩ := isOf hZ e5 Ee3
  obtain ⟨_, _, ⟨T6, L6, k6, n6⟩, -, X6, ⟨Lc6, hQ6, l6, y6, z6⟩, st6⟩ := X5.virtualBack hx (y := (⟨"com/example/idunn/idunn/simulation/Semispaces", "allocate", "(J)Z"⟩ : MethodName)) (z := (⟨"com/example/idunn/idunn/simulation/Semispaces", "allocate", "(J)Z"⟩ : MethodName)) hown (mvT hZ (hw _ (List.mem_of_getElem? (i := 18) rfl))) (mvT hZ (hw _ (List.mem_of_getElem? (i := 19) rfl))) (notFace_of_selects (args := #[]) (mvT hZ (hw _ (List.mem_of_getElem? (i := 21) rfl)))) (mvT hZ (hw _ (List.mem_of_getElem? (i := 21) rfl))) (mvT hZ (hw _ (List.mem_of_getElem? (i := 20) rfl))) (by decide) (backOf (W := 0) (own_alloc l Z a0 hw [] b1 r0 (x1 &&& (9223372036854775807 : Int64)) (0 : Int64) (x1 &&& (9223372036854775807 : Int64)) (0 : Int64) T3.heap n0 Z4 Ee3 F0_3 F1_3 F2_3 F3_3 g_b1 (own_B hu0)) hZ (hw _ (List.mem_of_getElem? (i := 22) rfl)) (hw _ (List.mem_of_getElem? (i := 3) rfl)) (by decide) (by decide)) q6a q6c (g := (mkF m 30 #[.val (.long x1), .second, .val (.long x2), .second, .val (.long x3), .second, .val (.long x4), .second, .val (.long x5), .second, .val (.long (x1 &&& (9223372036854775807 : Int64))), .second, .val (.ref b1), .val (.long r0), .second, .unset, .unset, .unset, .unset, .unset, .unset, .unset, .unset, .unset, .unset, .unset, .unset] [(.long r0), (.ref b1)])) rfl (by rw [hml]; rfl) (Steps.refl _) (argsL := [(.long r0)]) (rest := []) (lenOf own_pd3 rfl) rfl (by show 2 * 0 + _ ≤ _; exact Nat.le_of_eq rfl) (hb hby at_30) (fun _ _ => ⟨rfl, e5, (by decide : 1 + 0 ≤ _), (by decide : 4 + 0 ≤ _)⟩)
  dsimp only [Pt.U, Pt.locs, Pt.cells, Pt.slots] at X6 l6 y6 z6 st6 hQ6
  subst l6 y6 z6
  obtain ⟨rfl, N6q, K6, Ee6, F0_6, F1_6, F2_6, F3_6⟩ := hQ6
  have N6 := Fr.app N5 N6q
  have Ee3 := Ee3.keep K6
  have Z7 := Nat.le_trans Z4 K6.1
  obtain ⟨_, _, ⟨T8, L8, k8, n8⟩, -, X8, ⟨Lc8, hQ8, l8, y8, z8⟩, st8⟩ := Jvm.LawKit.callS X6 hx (y := (⟨"com/example/idunn/idunn/simulation/SemispacesFlipPinLaw", "upTo", "(JJ)J"⟩ : MethodName)) hown (mvT hZ (hw _ (List.mem_of_getElem? (i := 14) rfl))) (mvT hZ (hw _ (List.mem_of_getElem? (i := 15) rfl))) (mvT hZ (hw _ (List.mem_of_getElem? (i := 16) rfl))) (mvT hZ (hw _ (List.mem_of_getElem? (i := 17) rfl))) (by decide) (backOf (W := 0) (own_up l Z a0 hw [] x3 r0  T6.heap n0 Z7 hu0.1) hZ (hw _ (List.mem_of_getElem? (i := 17) rfl)) (hw _ (List.mem_of_getElem? (i := 16) rfl)) (by decide) (by decide)) (g := (mkF m 39 #[.val (.long x1), .second, .val (.long x2), .second, .val (.long x3), .second, .val (.long x4), .second, .val (.long x5), .second, .val (.long (x1 &&& (9223372036854775807 : Int64))), .second, .val (.ref b1), .val (.long r0), .second, .val (.int (1 : Int32)), .unset, .unset, .unset, .unset, .unset, .unset, .unset, .unset, .unset, .unset, .unset] [(.long r0), (.long x3)])) rfl (by rw [hml]; rfl) (argsL := [(.long x3), (.long r0)]) (rest := []) (lenOf own_pd1 rfl) rfl (by show 2 * 0 + _ ≤ _; exact Nat.le_of_eq rfl) (hb hby at_39) (fun _ _ => ⟨rfl, rfl, (by decide : 1 + 0 ≤ _), (by decide : 4 + 0 ≤ _)⟩)
  dsimp only [Pt.U, Pt.locs, Pt.cells, Pt.slots] at X8 l8 y8 z8 st8 hQ8
  subst l8 y8 z8
  obtain ⟨r1, rfl, N8q, e8, hu1⟩ := hQ8
  have N8 := Fr.app N6 N8q
  obtain ⟨cq9, kq9, q9a, q9b, q9c⟩ := isOf hZ e8 Ee6
  obtain ⟨_, _, ⟨T9, L9, k9, n9⟩, -, X9, ⟨Lc9, hQ9, l9, y9, z9⟩, st9⟩ := X8.virtualBack hx (y := (⟨"com/example/idunn/idunn/simulation/Semispaces", "flip", "(J)V"⟩ : MethodName)) (z := (⟨"com/example/idunn/idunn/simulation/Semispaces", "flip", "(J)V"⟩ : MethodName)) hown (mvT hZ (hw _ (List.mem_of_getElem? (i := 34) rfl))) (mvT hZ (hw _ (List.mem_of_getElem? (i := 35) rfl))) (notFace_of_selects (args := #[]) (mvT hZ (hw _ (List.mem_of_getElem? (i := 37) rfl)))) (mvT hZ (hw _ (List.mem_of_getElem? (i := 37) rfl))) (mvT hZ (hw _ (List.mem_of_getElem? (i := 36) rfl))) (by decide) (backOf (W := 0) (own_flip l Z a0 hw [] b1 r1 (x1 &&& (9223372036854775807 : Int64)) ((0 : Int64) + r0) (if ((x1 &&& (9223372036854775807 : Int64)) - ((0 : Int64) + r0)) < (x1 &&& (9223372036854775807 : Int64)) then ((x1 &&& (9223372036854775807 : Int64)) - ((0 : Int64) + r0)) else (x1 &&& (9223372036854775807 : Int64))) (0 : Int64) T6.heap n0 Z7 Ee6 F0_6 F1_6 F2_6 F3_6 g_b1) hZ (hw _ (List.mem_of_getElem? (i := 38) rfl)) (hw _ (List.mem_of_getElem? (i := 3) rfl)) (by decide) (by decide)) q9a q9c (g := (mkF m 48 #[.val (.long x1), .second, .val (.long x2), .second, .val (.long x3), .second, .val (.long x4), .second, .val (.long x5), .second, .val (.long (x1 &&& (9223372036854775807 : Int64))), .second, .val (.ref b1), .val (.long r0), .second, .val (.int (1 : Int32)), .val (.long r1), .second, .unset, .unset, .unset, .unset, .unset, .unset, .unset, .unset, .unset] [(.long r1), (.ref b1)])) rfl (by rw [hml]; rfl) (Steps.refl _) (argsL := [(.long r1)]) (rest := []) (lenOf own_pd2 rfl) rfl (by show 2 * 0 + _ ≤ _; exact Nat.le_of_eq rfl) (hb hby at_48) (fun _ _ => ⟨rfl, e8, (by decide : 1 + 0 ≤ _), (by decide : 4 + 0 ≤ _)⟩)
  dsimp only [Pt.U, Pt.locs, Pt.cells, Pt.slots] at X9 l9 y9 z9 st9 hQ9
  subst l9 y9 z9
  obtain ⟨rfl, N9q, K9, Ee9, F0_9, F1_9, F2_9, F3_9⟩ := hQ9
  have N9 := Fr.app N8 N9q
  have Ee6 := Ee6.keep K9
  have Z10 := Nat.le_trans Z7 K9.1
  obtain ⟨cq11, kq11, q11a, q11b, q11c⟩ := isOf hZ rfl Ee9
  obtain ⟨_, _, ⟨T11, L11, k11, n11⟩, -, X11, ⟨Lc11, hQ11, l11, y11, z11⟩, st11⟩ := X9.virtualBack hx (y := (⟨"com/example/idunn/idunn/simulation/Semispaces", "free", "()J"⟩ : MethodName)) (z := (⟨"com/example/idunn/idunn/simulation/Semispaces", "free", "()J"⟩ : MethodName)) hown (mvT hZ (hw _ (List.mem_of_getElem? (i := 44) rfl))) (mvT hZ (hw _ (List.mem_of_getElem? (i := 24) rfl))) (notFace_of_selects (args := #[]) (mvT hZ (hw _ (List.mem_of_getElem? (i := 26) rfl)))) (mvT hZ (hw _ (List.mem_of_getElem? (i := 26) rfl))) (mvT hZ (hw _ (List.mem_of_getElem? (i := 25) rfl))) (by decide) (backOf (W := 0) (own_free l Z a0 hw [] b1 (x1 &&& (9223372036854775807 : Int64)) r1 T9.heap n0 Z10 F0_9 F1_9) hZ (hw _ (List.mem_of_getElem? (i := 27) rfl)) (hw _ (List.mem_of_getElem? (i := 3) rfl)) (by decide) (by decide)) q11a q11c (g := (mkF m 58 #[.val (.long x1), .second, .val (.long x2), .second, .val (.long x3), .second, .val (.long x4), .second, .val (.long x5), .second, .val (.long (x1 &&& (9223372036854775807 : Int64))), .second, .val (.ref b1), .val (.long r0), .second, .val (.int (1 : Int32)), .val (.long r1), .second, .unset, .unset, .unset, .unset, .unset, .unset, .unset, .unset, .unset] [(.ref b1)])) rfl (by rw [hml]; rfl) (Steps.refl _) (argsL := []) (rest := []) (lenOf own_pd0 rfl) rfl (by show 2 * 0 + _ ≤ _; exact Nat.le_of_eq rfl) (hb hby at_58) (fun _ _ => ⟨rfl, rfl, (by decide : 1 + 0 ≤ _), (by decide : 4 + 0 ≤ _)⟩)
  dsimp only [Pt.U, Pt.locs, Pt.cells, Pt.slots] at X11 l11 y11 z11 st11 hQ11
  subst l11 y11 z11
  obtain ⟨rfl, N11q, e11⟩ := hQ11
  have N11 := Fr.app N9 N11q
  obtain ⟨cq12, kq12, q12a, q12b, q12c⟩ := isOf hZ e11 Ee9
  obtain ⟨_, _, ⟨T12, L12, k12, n12⟩, -, X12, ⟨Lc12, hQ12, l12, y12, z12⟩, st12⟩ := X11.virtualBack hx (y := (⟨"com/example/idunn/idunn/simulation/Semispaces", "mostCopied", "()J"⟩ : MethodName)) (z := (⟨"com/example/idunn/idunn/simulation/Semispaces", "mostCopied", "()J"⟩ : MethodName)) hown (mvT hZ (hw _ (List.mem_of_getElem? (i := 45) rfl))) (mvT hZ (hw _ (List.mem_of_getElem? (i := 46) rfl))) (notFace_of_selects (args := #[]) (mvT hZ (hw _ (List.mem_of_getElem? (i := 48) rfl)))) (mvT hZ (hw _ (List.mem_of_getElem? (i := 48) rfl))) (mvT hZ (hw _ (List.mem_of_getElem? (i := 47) rfl))) (by decide) (backOf (W := 0) (own_get_mostCopied l Z a0 hw [] b1 (if (0 : Int64) < r1 then r1 else (0 : Int64)) T9.heap n0 Z10 F3_9) hZ (hw _ (List.mem_of_getElem? (i := 49) rfl)) (hw _ (List.mem_of_getElem? (i := 3) rfl)) (by decide) (by decide)) q12a q12c (g := (mkF m 72 #[.val (.long x1), .second, .val (.long x2), .second, .val (.long x3), .second, .val (.long x4), .second, .val (.long x5), .second, .val (.long (x1 &&& (9223372036854775807 : Int64))), .second, .val (.ref b1), .val (.long r0), .second, .val (.int (1 : Int32)), .val (.long r1), .second, .unset, .unset, .unset, .unset, .unset, .unset, .unset, .unset, .unset] [(.ref b1)])) rfl (by rw [hml]; rfl) (Steps.refl _) (argsL := []) (rest := []) (lenOf own_pd0 rfl) rfl (by show 2 * 0 + _ ≤ _; exact Nat.le_of_eq rfl) (hb hby at_72) (fun _ _ => ⟨rfl, e11, (by decide : 1 + 0 ≤ _), (by decide : 4 + 0 ≤ _)⟩)
  dsimp only [Pt.U, Pt.locs, Pt.cells, Pt.slots] at X12 l12 y12 z12 st12 hQ12
  subst l12 y12 z12
  obtain ⟨rfl, N12q, e12⟩ := hQ12
  have N12 := Fr.app N11 N12q
  obtain ⟨_, _, ⟨T13, L13, k13, n13⟩, -, X13, ⟨Lc13, hQ13, l13, y13, z13⟩, st13⟩ := Jvm.LawKit.callS X12 hx (y := (⟨"com/example/idunn/idunn/simulation/SemispacesFlipPinLaw", "upTo", "(JJ)J"⟩ : MethodName)) hown (mvT hZ (hw _ (List.mem_of_getElem? (i := 14) rfl))) (mvT hZ (hw _ (List.mem_of_getElem? (i := 15) rfl))) (mvT hZ (hw _ (List.mem_of_getElem? (i := 16) rfl))) (mvT hZ (hw _ (List.mem_of_getElem? (i := 17) rfl))) (by decide) (backOf (W := 0) (own_up l Z a0 hw [] x4 ((x1 &&& (9223372036854775807 : Int64)) - r1)  T9.heap n0 Z10 (own_F hu1.1 (Int.le_trans hu1.2 hu0.2))) hZ (hw _ (List.mem_of_getElem? (i := 17) rfl)) (hw _ (List.mem_of_getElem? (i := 16) rfl)) (by decide) (by decide)) (g := (mkF m 95 #[.val (.long x1), .second, .val (.long x2), .second, .val (.long x3), .second, .val (.long x4), .second, .val (.long x5), .second, .val (.long (x1 &&& (9223372036854775807 : Int64))), .second, .val (.ref b1), .val (.long r0), .second, .val (.int (1 : Int32)), .val (.long r1), .second, .val (.int (1 : Int32)), .unset, .unset, .unset, .unset, .unset, .unset, .unset, .unset] [(.long ((x1 &&& (9223372036854775807 : Int64)) - r1)), (.long x4)])) rfl (by rw [hml]; rfl) (argsL := [(.long x4), (.long ((x1 &&& (9223372036854775807 : Int64)) - r1))]) (rest := []) (lenOf own_pd1 rfl) rfl (by show 2 * 0 + _ ≤ _; exact Nat.le_of_eq rfl) (hb hby at_95) (fun _ _ => ⟨rfl, e12, (by decide : 1 + 0 ≤ _), (by decide : 4 + 0 ≤ _)⟩)
  dsimp only [Pt.U, Pt.locs, Pt.cells, Pt.slots] at X13 l13 y13 z13 st13 hQ13
  subst l13 y13 z13
  obtain ⟨r2, rfl, N13q, e13, hu2⟩ := hQ13
  have N13 := Fr.app N12 N13q
  obtain ⟨cq14, kq14, q14a, q14b, q14c⟩ := isOf hZ e13 Ee9
  obtain ⟨_, _, ⟨T14, L14, k14, n14⟩, -, X14, ⟨Lc14, hQ14, l14, y14, z14⟩, st14⟩ := X13.virtualBack hx (y := (⟨"com/example/idunn/idunn/simulation/Semispaces", "allocate", "(J)Z"⟩ : MethodName)) (z := (⟨"com/example/idunn/idunn/simulation/Semispaces", "allocate", "(J)Z"⟩ : MethodName)) hown (mvT hZ (hw _ (List.mem_of_getElem? (i := 18) rfl))) (mvT hZ (hw _ (List.mem_of_getElem? (i := 19) rfl))) (notFace_of_selects (args := #[]) (mvT hZ (hw _ (List.mem_of_getElem? (i := 21) rfl)))) (mvT hZ (hw _ (List.mem_of_getElem? (i := 21) rfl))) (mvT hZ (hw _ (List.mem_of_getElem? (i := 20) rfl))) (by decide) (backOf (W := 0) (own_alloc l Z a0 hw [] b1 r2 (x1 &&& (9223372036854775807 : Int64)) r1 (if ((x1 &&& (9223372036854775807 : Int64)) - ((0 : Int64) + r0)) < (x1 &&& (9223372036854775807 : Int64)) then ((x1 &&& (9223372036854775807 : Int64)) - ((0 : Int64) + r0)) else (x1 &&& (9223372036854775807 : Int64))) (if (0 : Int64) < r1 then r1 else (0 : Int64)) T9.heap n0 Z10 Ee9 F0_9 F1_9 F2_9 F3_9 g_b1 (own_Gg hu2)) hZ (hw _ (List.mem_of_getElem? (i := 22) rfl)) (hw _ (List.mem_of_getElem? (i := 3) rfl)) (by decide) (by decide)) q14a q14c (g := (mkF m 104 #[.val (.long x1), .second, .val (.long x2), .second, .val (.long x3), .second, .val (.long x4), .second, .val (.long x5), .second, .val (.long (x1 &&& (9223372036854775807 : Int64))), .second, .val (.ref b1), .val (.long r0), .second, .val (.int (1 : Int32)), .val (.long r1), .second, .val (.int (1 : Int32)), .val (.long r2), .second, .unset, .unset, .unset, .unset, .unset, .unset] [(.long r2), (.ref b1)])) rfl (by rw [hml]; rfl) (Steps.refl _) (argsL := [(.long r2)]) (rest := []) (lenOf own_pd3 rfl) rfl (by show 2 * 0 + _ ≤ _; exact Nat.le_of_eq rfl) (hb hby at_104) (fun _ _ => ⟨rfl, e13, (by decide : 1 + 0 ≤ _), (by decide : 4 + 0 ≤ _)⟩)
  dsimp only [Pt.U, Pt.locs, Pt.cells, Pt.slots] at X14 l14 y14 z14 st14 hQ14
  subst l14 y14 z14
  obtain ⟨rfl, N14q, K14, Ee14, F0_14, F1_14, F2_14, F3_14⟩ := hQ14
  have N14 := Fr.app N13 N14q
  have Ee9 := Ee9.keep K14
  have Z15 := Nat.le_trans Z10 K14.1
  obtain ⟨_, _, ⟨T16, L16, k16, n16⟩, -, X16, ⟨Lc16, hQ16, l16, y16, z16⟩, st16⟩ := Jvm.LawKit.callS X14 hx (y := (⟨"com/example/idunn/idunn/simulation/SemispacesFlipPinLaw", "upTo", "(JJ)J"⟩ : MethodName)) hown (mvT hZ (hw _ (List.mem_of_getElem? (i := 14) rfl))) (mvT hZ (hw _ (List.mem_of_getElem? (i := 15) rfl))) (mvT hZ (hw _ (List.mem_of_getElem? (i := 16) rfl))) (mvT hZ (hw _ (List.mem_of_getElem? (i := 17) rfl))) (by decide) (backOf (W := 0) (own_up l Z a0 hw [] x5 (r1 + r2)  T14.heap n0 Z15 (by have q := own_Hh hu1.1 (Int.le_trans hu1.2 hu0.2) hu2; rw [q.1]; omega)) hZ (hw _ (List.mem_of_getElem? (i := 17) rfl)) (hw _ (List.mem_of_getElem? (i := 16) rfl)) (by decide) (by decide)) (g := (mkF m 116 #[.val (.long x1), .second, .val (.long x2), .second, .val (.long x3), .second, .val (.long x4), .second, .val (.long x5), .second, .val (.long (x1 &&& (9223372036854775807 : Int64))), .second, .val (.ref b1), .val (.long r0), .second, .val (.int (1 : Int32)), .val (.long r1), .second, .val (.int (1 : Int32)), .val (.long r2), .second, .val (.int (1 : Int32)), .unset, .unset, .unset, .unset, .unset] [(.long (r1 + r2)), (.long x5)])) rfl (by rw [hml]; rfl) (argsL := [(.long x5), (.long (r1 + r2))]) (rest := []) (lenOf own_pd1 rfl) rfl (by show 2 * 0 + _ ≤ _; exact Nat.le_of_eq rfl) (hb hby at_116) (fun _ _ => ⟨rfl, rfl, (by decide : 1 + 0 ≤ _), (by decide : 4 + 0 ≤ _)⟩)
  dsimp only [Pt.U, Pt.locs, Pt.cells, Pt.slots] at X16 l16 y16 z16 st16 hQ16
  subst l16 y16 z16
  obtain ⟨r3, rfl, N16q, e16, hu3⟩ := hQ16
  have N16 := Fr.app N14 N16q
  obtain ⟨cq17, kq17, q17a, q17b, q17c⟩ := isOf hZ e16 Ee14
  obtain ⟨_, _, ⟨T17, L17, k17, n17⟩, -, X17, ⟨Lc17, hQ17, l17, y17, z17⟩, st17⟩ := X16.virtualBack hx (y := (⟨"com/example/idunn/idunn/simulation/Semispaces", "flip", "(J)V"⟩ : MethodName)) (z := (⟨"com/example/idunn/idunn/simulation/Semispaces", "flip", "(J)V"⟩ : MethodName)) hown (mvT hZ (hw _ (List.mem_of_getElem? (i := 34) rfl))) (mvT hZ (hw _ (List.mem_of_getElem? (i := 35) rfl))) (notFace_of_selects (args := #[]) (mvT hZ (hw _ (List.mem_of_getElem? (i := 37) rfl)))) (mvT hZ (hw _ (List.mem_of_getElem? (i := 37) rfl))) (mvT hZ (hw _ (List.mem_of_getElem? (i := 36) rfl))) (by decide) (backOf (W := 0) (own_flip l Z a0 hw [] b1 r3 (x1 &&& (9223372036854775807 : Int64)) (r1 + r2) (if ((x1 &&& (9223372036854775807 : Int64)) - (r1 + r2)) < (if ((x1 &&& (9223372036854775807 : Int64)) - ((0 : Int64) + r0)) < (x1 &&& (9223372036854775807 : Int64)) then ((x1 &&& (9223372036854775807 : Int64)) - ((0 : Int64) + r0)) else (x1 &&& (9223372036854775807 : Int64))) then ((x1 &&& (9223372036854775807 : Int64)) - (r1 + r2)) else (if ((x1 &&& (9223372036854775807 : Int64)) - ((0 : Int64) + r0)) < (x1 &&& (9223372036854775807 : Int64)) then ((x1 &&& (9223372036854775807 : Int64)) - ((0 : Int64) + r0)) else (x1 &&& (9223372036854775807 : Int64)))) (if (0 : Int64) < r1 then r1 else (0 : Int64)) T14.heap n0 Z15 Ee14 F0_14 F1_14 F2_14 F3_14 g_b1) hZ (hw _ (List.mem_of_getElem? (i := 38) rfl)) (hw _ (List.mem_of_getElem? (i := 3) rfl)) (by decide) (by decide)) q17a q17c (g := (mkF m 125 #[.val (.long x1), .second, .val (.long x2), .second, .val (.long x3), .second, .val (.long x4), .second, .val (.long x5), .second, .val (.long (x1 &&& (9223372036854775807 : Int64))), .second, .val (.ref b1), .val (.long r0), .second, .val (.int (1 : Int32)), .val (.long r1), .second, .val (.int (1 : Int32)), .val (.long r2), .second, .val (.int (1 : Int32)), .val (.long r3), .second, .unset, .unset, .unset] [(.long r3), (.ref b1)])) rfl (by rw [hml]; rfl) (Steps.refl _) (argsL := [(.long r3)]) (rest := []) (lenOf own_pd2 rfl) rfl (by show 2 * 0 + _ ≤ _; exact Nat.le_of_eq rfl) (hb hby at_125) (fun _ _ => ⟨rfl, e16, (by decide : 1 + 0 ≤ _), (by decide : 4 + 0 ≤ _)⟩)
  dsimp only [Pt.U, Pt.locs, Pt.cells, Pt.slots] at X17 l17 y17 z17 st17 hQ17
  subst l17 y17 z17
  obtain ⟨rfl, N17q, K17, Ee17, F0_17, F1_17, F2_17, F3_17⟩ := hQ17
  have N17 := Fr.app N16 N17q
  have Ee14 := Ee14.keep K17
  have Z18 := Nat.le_trans Z15 K17.1
  obtain ⟨_, _, ⟨T19, L19, k19, n19⟩, -, X19, ⟨Lc19, hQ19, l19, y19, z19⟩, st19⟩ := Jvm.LawKit.callS X17 hx (y := (⟨"java/lang/Math", "min", "(JJ)J"⟩ : MethodName)) hown (mvT hZ (hw _ (List.mem_of_getElem? (i := 50) rfl))) (mvT hZ (hw _ (List.mem_of_getElem? (i := 31) rfl))) (mvT hZ (hw _ (List.mem_of_getElem? (i := 32) rfl))) (mvT hZ (hw _ (List.mem_of_getElem? (i := 33) rfl))) (by decide) (backOf (W := 0) (own_min l Z a0 hw [] ((x1 &&& (9223372036854775807 : Int64)) - r0) (((x1 &&& (9223372036854775807 : Int64)) - r1) - r2)  T17.heap n0 Z18 ) hZ (hw _ (List.mem_of_getElem? (i := 33) rfl)) (hw _ (List.mem_of_getElem? (i := 32) rfl)) (by decide) (by decide)) (g := (mkF m 141 #[.val (.long x1), .second, .val (.long x2), .second, .val (.long x3), .second, .val (.long x4), .second, .val (.long x5), .second, .val (.long (x1 &&& (9223372036854775807 : Int64))), .second, .val (.ref b1), .val (.long r0), .second, .val (.int (1 : Int32)), .val (.long r1), .second, .val (.int (1 : Int32)), .val (.long r2), .second, .val (.int (1 : Int32)), .val (.long r3), .second, .unset, .unset, .unset] [(.long (((x1 &&& (9223372036854775807 : Int64)) - r1) - r2)), (.long ((x1 &&& (9223372036854775807 : Int64)) - r0))])) rfl (by rw [hml]; rfl) (argsL := [(.long ((x1 &&& (9223372036854775807 : Int64)) - r0)), (.long (((x1 &&& (9223372036854775807 : Int64)) - r1) - r2))]) (rest := []) (lenOf own_pd1 rfl) rfl (by show 2 * 0 + _ ≤ _; exact Nat.le_of_eq rfl) (hb hby at_141) (fun _ _ => ⟨rfl, rfl, (by decide : 1 + 0 ≤ _), (by decide : 4 + 0 ≤ _)⟩)
  dsimp only [Pt.U, Pt.locs, Pt.cells, Pt.slots] at X19 l19 y19 z19 st19 hQ19
  subst l19 y19 z19
  obtain ⟨rfl, N19q, e19⟩ := hQ19
  have N19 := Fr.app N17 N19q
  obtain ⟨cq20, kq20, q20a, q20b, q20c⟩ := isOf hZ e19 Ee17
  obtain ⟨_, _, ⟨T20, L20, k20, n20⟩, -, X20, ⟨Lc20, hQ20, l20, y20, z20⟩, st20⟩ := X19.virtualBack hx (y := (⟨"com/example/idunn/idunn/simulation/Semispaces", "free", "()J"⟩ : MethodName)) (z := (⟨"com/example/idunn/idunn/simulation/Semispaces", "free", "()J"⟩ : MethodName)) hown (mvT hZ (hw _ (List.mem_of_getElem? (i := 44) rfl))) (mvT hZ (hw _ (List.mem_of_getElem? (i := 24) rfl))) (notFace_of_selects (args := #[]) (mvT hZ (hw _ (List.mem_of_getElem? (i := 26) rfl)))) (mvT hZ (hw _ (List.mem_of_getElem? (i := 26) rfl))) (mvT hZ (hw _ (List.mem_of_getElem? (i := 25) rfl))) (by decide) (backOf (W := 0) (own_free l Z a0 hw [] b1 (x1 &&& (9223372036854775807 : Int64)) r3 T17.heap n0 Z18 F0_17 F1_17) hZ (hw _ (List.mem_of_getElem? (i := 27) rfl)) (hw _ (List.mem_of_getElem? (i := 3) rfl)) (by decide) (by decide)) q20a q20c (g := (mkF m 153 #[.val (.long x1), .second, .val (.long x2), .second, .val (.long x3), .second, .val (.long x4), .second, .val (.long x5), .second, .val (.long (x1 &&& (9223372036854775807 : Int64))), .second, .val (.ref b1), .val (.long r0), .second, .val (.int (1 : Int32)), .val (.long r1), .second, .val (.int (1 : Int32)), .val (.long r2), .second, .val (.int (1 : Int32)), .val (.long r3), .second, .val (.long (if (((x1 &&& (9223372036854775807 : Int64)) - r1) - r2) < ((x1 &&& (9223372036854775807 : Int64)) - r0) then (((x1 &&& (9223372036854775807 : Int64)) - r1) - r2) else ((x1 &&& (9223372036854775807 : Int64)) - r0))), .second, .unset] [(.ref b1)])) rfl (by rw [hml]; rfl) (Steps.refl _) (argsL := []) (rest := []) (lenOf own_pd0 rfl) rfl (by show 2 * 0 + _ ≤ _; exact Nat.le_of_eq rfl) (hb hby at_153) (fun _ _ => ⟨rfl, e19, (by decide : 1 + 0 ≤ _), (by decide : 4 + 0 ≤ _)⟩)
  dsimp only [Pt.U, Pt.locs, Pt.cells, Pt.slots] at X20 l20 y20 z20 st20 hQ20
  subst l20 y20 z20
  obtain ⟨rfl, N20q, e20⟩ := hQ20
  have N20 := Fr.app N19 N20q
  obtain ⟨cq21, kq21, q21a, q21b, q21c⟩ := isOf hZ e20 Ee17
  obtain ⟨_, _, ⟨T21, L21, k21, n21⟩, -, X21, ⟨Lc21, hQ21, l21, y21, z21⟩, st21⟩ := X20.virtualBack hx (y := (⟨"com/example/idunn/idunn/simulation/Semispaces", "minFree", "()J"⟩ : MethodName)) (z := (⟨"com/example/idunn/idunn/simulation/Semispaces", "minFree", "()J"⟩ : MethodName)) hown (mvT hZ (hw _ (List.mem_of_getElem? (i := 51) rfl))) (mvT hZ (hw _ (List.mem_of_getElem? (i := 52) rfl))) (notFace_of_selects (args := #[]) (mvT hZ (hw _ (List.mem_of_getElem? (i := 54) rfl)))) (mvT hZ (hw _ (List.mem_of_getElem? (i := 54) rfl))) (mvT hZ (hw _ (List.mem_of_getElem? (i := 53) rfl))) (by decide) (backOf (W := 0) (own_get_minFree l Z a0 hw [] b1 (if ((x1 &&& (9223372036854775807 : Int64)) - (r1 + r2)) < (if ((x1 &&& (9223372036854775807 : Int64)) - ((0 : Int64) + r0)) < (x1 &&& (9223372036854775807 : Int64)) then ((x1 &&& (9223372036854775807 : Int64)) - ((0 : Int64) + r0)) else (x1 &&& (9223372036854775807 : Int64))) then ((x1 &&& (9223372036854775807 : Int64)) - (r1 + r2)) else (if ((x1 &&& (9223372036854775807 : Int64)) - ((0 : Int64) + r0)) < (x1 &&& (9223372036854775807 : Int64)) then ((x1 &&& (9223372036854775807 : Int64)) - ((0 : Int64) + r0)) else (x1 &&& (9223372036854775807 : Int64)))) T17.heap n0 Z18 F2_17) hZ (hw _ (List.mem_of_getElem? (i := 55) rfl)) (hw _ (List.mem_of_getElem? (i := 3) rfl)) (by decide) (by decide)) q21a q21c (g := (mkF m 167 #[.val (.long x1), .second, .val (.long x2), .second, .val (.long x3), .second, .val (.long x4), .second, .val (.long x5), .second, .val (.long (x1 &&& (9223372036854775807 : Int64))), .second, .val (.ref b1), .val (.long r0), .second, .val (.int (1 : Int32)), .val (.long r1), .second, .val (.int (1 : Int32)), .val (.long r2), .second, .val (.int (1 : Int32)), .val (.long r3), .second, .val (.long (if (((x1 &&& (9223372036854775807 : Int64)) - r1) - r2) < ((x1 &&& (9223372036854775807 : Int64)) - r0) then (((x1 &&& (9223372036854775807 : Int64)) - r1) - r2) else ((x1 &&& (9223372036854775807 : Int64)) - r0))), .second, .unset] [(.ref b1)])) rfl (by rw [hml]; rfl) (Steps.refl _) (argsL := []) (rest := []) (lenOf own_pd0 rfl) rfl (by show 2 * 0 + _ ≤ _; exact Nat.le_of_eq rfl) (hb hby at_167) (fun _ _ => ⟨rfl, e20, (by decide : 1 + 0 ≤ _), (by decide : 4 + 0 ≤ _)⟩)
  dsimp only [Pt.U, Pt.locs, Pt.cells, Pt.slots] at X21 l21 y21 z21 st21 hQ21
  subst l21 y21 z21
  obtain ⟨rfl, N21q, e21⟩ := hQ21
  have N21 := Fr.app N20 N21q
  obtain ⟨cq22, kq22, q22a, q22b, q22c⟩ := isOf hZ e21 Ee17
  obtain ⟨_, _, ⟨T22, L22, k22, n22⟩, -, X22, ⟨Lc22, hQ22, l22, y22, z22⟩, st22⟩ := X21.virtualBack hx (y := (⟨"com/example/idunn/idunn/simulation/Semispaces", "mostCopied", "()J"⟩ : MethodName)) (z := (⟨"com/example/idunn/idunn/simulation/Semispaces", "mostCopied", "()J"⟩ : MethodName)) hown (mvT hZ (hw _ (List.mem_of_getElem? (i := 45) rfl))) (mvT hZ (hw _ (List.mem_of_getElem? (i := 46) rfl))) (notFace_of_selects (args := #[]) (mvT hZ (hw _ (List.mem_of_getElem? (i := 48) rfl)))) (mvT hZ (hw _ (List.mem_of_getElem? (i := 48) rfl))) (mvT hZ (hw _ (List.mem_of_getElem? (i := 47) rfl))) (by decide) (backOf (W := 0) (own_get_mostCopied l Z a0 hw [] b1 (if (if (0 : Int64) < r1 then r1 else (0 : Int64)) < r3 then r3 else (if (0 : Int64) < r1 then r1 else (0 : Int64))) T17.heap n0 Z18 F3_17) hZ (hw _ (List.mem_of_getElem? (i := 49) rfl)) (hw _ (List.mem_of_getElem? (i := 3) rfl)) (by decide) (by decide)) q22a q22c (g := (mkF m 178 #[.val (.long x1), .second, .val (.long x2), .second, .val (.long x3), .second, .val (.long x4), .second, .val (.long x5), .second, .val (.long (x1 &&& (9223372036854775807 : Int64))), .second, .val (.ref b1), .val (.long r0), .second, .val (.int (1 : Int32)), .val (.long r1), .second, .val (.int (1 : Int32)), .val (.long r2), .second, .val (.int (1 : Int32)), .val (.long r3), .second, .val (.long (if (((x1 &&& (9223372036854775807 : Int64)) - r1) - r2) < ((x1 &&& (9223372036854775807 : Int64)) - r0) then (((x1 &&& (9223372036854775807 : Int64)) - r1) - r2) else ((x1 &&& (9223372036854775807 : Int64)) - r0))), .second, .unset] [(.ref b1)])) rfl (by rw [hml]; rfl) (Steps.refl _) (argsL := []) (rest := []) (lenOf own_pd0 rfl) rfl (by show 2 * 0 + _ ≤ _; exact Nat.le_of_eq rfl) (hb hby at_178) (fun _ _ => ⟨rfl, e21, (by decide : 1 + 0 ≤ _), (by decide : 4 + 0 ≤ _)⟩)
  dsimp only [Pt.U, Pt.locs, Pt.cells, Pt.slots] at X22 l22 y22 z22 st22 hQ22
  subst l22 y22 z22
  obtain ⟨rfl, N22q, e22⟩ := hQ22
  have N22 := Fr.app N21 N22q
  obtain ⟨_, _, ⟨T23, L23, k23, n23⟩, -, X23, ⟨Lc23, hQ23, l23, y23, z23⟩, st23⟩ := Jvm.LawKit.callS X22 hx (y := (⟨"java/lang/Math", "max", "(JJ)J"⟩ : MethodName)) hown (mvT hZ (hw _ (List.mem_of_getElem? (i := 56) rfl))) (mvT hZ (hw _ (List.mem_of_getElem? (i := 42) rfl))) (mvT hZ (hw _ (List.mem_of_getElem? (i := 32) rfl))) (mvT hZ (hw _ (List.mem_of_getElem? (i := 43) rfl))) (by decide) (backOf (W := 2) (own_max l Z a0 hw [] r1 r3  T17.heap n0 Z18 ) hZ (hw _ (List.mem_of_getElem? (i := 43) rfl)) (hw _ (List.mem_of_getElem? (i := 32) rfl)) (by decide) (by decide)) (g := (mkF m 185 #[.val (.long x1), .second, .val (.long x2), .second, .val (.long x3), .second, .val (.long x4), .second, .val (.long x5), .second, .val (.long (x1 &&& (9223372036854775807 : Int64))), .second, .val (.ref b1), .val (.long r0), .second, .val (.int (1 : Int32)), .val (.long r1), .second, .val (.int (1 : Int32)), .val (.long r2), .second, .val (.int (1 : Int32)), .val (.long r3), .second, .val (.long (if (((x1 &&& (9223372036854775807 : Int64)) - r1) - r2) < ((x1 &&& (9223372036854775807 : Int64)) - r0) then (((x1 &&& (9223372036854775807 : Int64)) - r1) - r2) else ((x1 &&& (9223372036854775807 : Int64)) - r0))), .second, .unset] [(.long r3), (.long r1), (.long (if (if (0 : Int64) < r1 then r1 else (0 : Int64)) < r3 then r3 else (if (0 : Int64) < r1 then r1 else (0 : Int64))))])) rfl (by rw [hml]; rfl) (argsL := [(.long r1), (.long r3)]) (rest := [(.long (if (if (0 : Int64) < r1 then r1 else (0 : Int64)) < r3 then r3 else (if (0 : Int64) < r1 then r1 else (0 : Int64))))]) (lenOf own_pd1 rfl) rfl (by show 2 * 0 + _ ≤ _; exact Nat.le_of_eq rfl) (hb hby at_185) (fun _ _ => ⟨rfl, e22, (by decide : 1 + 0 ≤ _), (by decide : 4 + 0 ≤ _)⟩)
  dsimp only [Pt.U, Pt.locs, Pt.cells, Pt.slots] at X23 l23 y23 z23 st23 hQ23
  subst l23 y23 z23
  obtain ⟨rfl, N23q, e23⟩ := hQ23
  have N23 := Fr.app N22 N23q
  obtain ⟨fs, hr, hrun, hended, hW, hsame⟩ := X23.leave (v := some (.int (1 : Int32))) (fun h => by rw [Bd.returns] at h; cases h)
  refine ⟨_, _, pre0 _ ?_, hrun, hended, _, _, rfl, ?_, ⟨_, rfl⟩, hW, hsame.mono (by decide) (by decide)⟩
  · show Steps p.tables e below (s₁.setTop (mkF m 0 #[.val (.long x1), .second, .val (.long x2), .second, .val (.long x3), .second, .val (.long x4), .second, .val (.long x5), .second, .unset, .unset, .unset, .unset, .unset, .unset, .unset, .unset, .unset, .unset, .unset, .unset, .unset, .unset, .unset, .unset, .unset] [])) _
    refine XS.lloadN X0.here hx rfl (hb hby at_0) rfl ?_
    show Steps p.tables e below (s₁.setTop (mkF m 1 #[.val (.long x1), .second, .val (.long x2), .second, .val (.long x3), .second, .val (.long x4), .second, .val (.long x5), .second, .unset, .unset, .unset, .unset, .unset, .unset, .unset, .unset, .unset, .unset, .unset, .unset, .unset, .unset, .unset, .unset, .unset] [(.long x1)])) _
    refine X0.ldc2Long hx hown (mvT hZ (hw _ (List.mem_of_getElem? (i := 0) rfl))) (g := (mkF m 1 #[.val (.long x1), .second, .val (.long x2), .second, .val (.long x3), .second, .val (.long x4), .second, .val (.long x5), .second, .unset, .unset, .unset, .unset, .unset, .unset, .unset, .unset, .unset, .unset, .unset, .unset, .unset, .unset, .unset, .unset, .unset] [(.long x1)])) rfl (hb hby at_1) _ ?_
    show Steps p.tables e below (s₁.setTop (mkF m 4 #[.val (.long x1), .second, .val (.long x2), .second, .val (.long x3), .second, .val (.long x4), .second, .val (.long x5), .second, .unset, .unset, .unset, .unset, .unset, .unset, .unset, .unset, .unset, .unset, .unset, .unset, .unset, .unset, .unset, .unset, .unset] [(.long (9223372036854775807 : Int64)), (.long x1)])) _
    refine XS.land X0.here hx rfl (hb hby at_4) rfl ?_
    show Steps p.tables e below (s₁.setTop (mkF m 5 #[.val (.long x1), .second, .val (.long x2), .second, .val (.long x3), .second, .val (.long x4), .second, .val (.long x5), .second, .unset, .unset, .unset, .unset, .unset, .unset, .unset, .unset, .unset, .unset, .unset, .unset, .unset, .unset, .unset, .unset, .unset] [(.long (x1 &&& (9223372036854775807 : Int64)))])) _
    refine XS.lstore X0.here hx rfl (hb hby at_5) rfl (l' := #[.val (.long x1), .second, .val (.long x2), .second, .val (.long x3), .second, .val (.long x4), .second, .val (.long x5), .second, .val (.long (x1 &&& (9223372036854775807 : Int64))), .second, .unset, .unset, .unset, .unset, .unset, .unset, .unset, .unset, .unset, .unset, .unset, .unset, .unset, .unset, .unset]) rfl ?_
    show Steps p.tables e below (s₁.setTop (mkF m 7 #[.val (.long x1), .second, .val (.long x2), .second, .val (.long x3), .second, .val (.long x4), .second, .val (.long x5), .second, .val (.long (x1 &&& (9223372036854775807 : Int64))), .second, .unset, .unset, .unset, .unset, .unset, .unset, .unset, .unset, .unset, .unset, .unset, .unset, .unset, .unset, .unset] [])) _
    refine st1 _ ?_
    show Steps p.tables e below (T1.setTop (mkF m 10 #[.val (.long x1), .second, .val (.long x2), .second, .val (.long x3), .second, .val (.long x4), .second, .val (.long x5), .second, .val (.long (x1 &&& (9223372036854775807 : Int64))), .second, .unset, .unset, .unset, .unset, .unset, .unset, .unset, .unset, .unset, .unset, .unset, .unset, .unset, .unset, .unset] [(.ref b1)])) _
    refine XS.dup X1.here hx rfl (hb hby at_10) rfl rfl ?_
    show Steps p.tables e below (T1.setTop (mkF m 11 #[.val (.long x1), .second, .val (.long x2), .second, .val (.long x3), .second, .val (.long x4), .second, .val (.long x5), .second, .val (.long (x1 &&& (9223372036854775807 : Int64))), .second, .unset, .unset, .unset, .unset, .unset, .unset, .unset, .unset, .unset, .unset, .unset, .unset, .unset, .unset, .unset] [(.ref b1), (.ref b1)])) _
    refine XS.lload X1.here hx rfl (hb hby at_11) rfl ?_
    show Steps p.tables e below (T1.setTop (mkF m 13 #[.val (.long x1), .second, .val (.long x2), .second, .val (.long x3), .second, .val (.long x4), .second, .val (.long x5), .second, .val (.long (x1 &&& (9223372036854775807 : Int64))), .second, .unset, .unset, .unset, .unset, .unset, .unset, .unset, .unset, .unset, .unset, .unset, .unset, .unset, .unset, .unset] [(.long (x1 &&& (9223372036854775807 : Int64))), (.ref b1), (.ref b1)])) _
    refine st3.trans ?_
    show Steps p.tables e below (T3.setTop (mkF m 16 #[.val (.long x1), .second, .val (.long x2), .second, .val (.long x3), .second, .val (.long x4), .second, .val (.long x5), .second, .val (.long (x1 &&& (9223372036854775807 : Int64))), .second, .unset, .unset, .unset, .unset, .unset, .unset, .unset, .unset, .unset, .unset, .unset, .unset, .unset, .unset, .unset] [(.ref b1)])) _
    refine XS.astore X3.here hx rfl (hb hby at_16) rfl rfl (l' := #[.val (.long x1), .second, .val (.long x2), .second, .val (.long x3), .second, .val (.long x4), .second, .val (.long x5), .second, .val (.long (x1 &&& (9223372036854775807 : Int64))), .second, .val (.ref b1), .unset, .unset, .unset, .unset, .unset, .unset, .unset, .unset, .unset, .unset, .unset, .unset, .unset, .unset]) rfl ?_
    show Steps p.tables e below (T3.setTop (mkF m 18 #[.val (.long x1), .second, .val (.long x2), .second, .val (.long x3), .second, .val (.long x4), .second, .val (.long x5), .second, .val (.long (x1 &&& (9223372036854775807 : Int64))), .second, .val (.ref b1), .unset, .unset, .unset, .unset, .unset, .unset, .unset, .unset, .unset, .unset, .unset, .unset, .unset, .unset] [])) _
    refine XS.lloadN X3.here hx rfl (hb hby at_18) rfl ?_
    show Steps p.tables e below (T3.setTop (mkF m 19 #[.val (.long x1), .second, .val (.long x2), .second, .val (.long x3), .second, .val (.long x4), .second, .val (.long x5), .second, .val (.long (x1 &&& (9223372036854775807 : Int64))), .second, .val (.ref b1), .unset, .unset, .unset, .unset, .unset, .unset, .unset, .unset, .unset, .unset, .unset, .unset, .unset, .unset] [(.long x2)])) _
    refine XS.lload X3.here hx rfl (hb hby at_19) rfl ?_
    show Steps p.tables e below (T3.setTop (mkF m 21 #[.val (.long x1), .second, .val (.long x2), .second, .val (.long x3), .second, .val (.long x4), .second, .val (.long x5), .second, .val (.long (x1 &&& (9223372036854775807 : Int64))), .second, .val (.ref b1), .unset, .unset, .unset, .unset, .unset, .unset, .unset, .unset, .unset, .unset, .unset, .unset, .unset, .unset] [(.long (x1 &&& (9223372036854775807 : Int64))), (.long x2)])) _
    refine st5 _ ?_
    show Steps p.tables e below (T5.setTop (mkF m 24 #[.val (.long x1), .second, .val (.long x2), .second, .val (.long x3), .second, .val (.long x4), .second, .val (.long x5), .second, .val (.long (x1 &&& (9223372036854775807 : Int64))), .second, .val (.ref b1), .unset, .unset, .unset, .unset, .unset, .unset, .unset, .unset, .unset, .unset, .unset, .unset, .unset, .unset] [(.long r0)])) _
    refine XS.lstore X5.here hx rfl (hb hby at_24) rfl (l' := #[.val (.long x1), .second, .val (.long x2), .second, .val (.long x3), .second, .val (.long x4), .second, .val (.long x5), .second, .val (.long (x1 &&& (9223372036854775807 : Int64))), .second, .val (.ref b1), .val (.long r0), .second, .unset, .unset, .unset, .unset, .unset, .unset, .unset, .unset, .unset, .unset, .unset, .unset]) rfl ?_
    show Steps p.tables e below (T5.setTop (mkF m 26 #[.val (.long x1), .second, .val (.long x2), .second, .val (.long x3), .second, .val (.long x4), .second, .val (.long x5), .second, .val (.long (x1 &&& (9223372036854775807 : Int64))), .second, .val (.ref b1), .val (.long r0), .second, .unset, .unset, .unset, .unset, .unset, .unset, .unset, .unset, .unset, .unset, .unset, .unset] [])) _
    refine XS.aload X5.here hx rfl (hb hby at_26) rfl rfl ?_
    show Steps p.tables e below (T5.setTop (mkF m 28 #[.val (.long x1), .second, .val (.long x2), .second, .val (.long x3), .second, .val (.long x4), .second, .val (.long x5), .second, .val (.long (x1 &&& (9223372036854775807 : Int64))), .second, .val (.ref b1), .val (.long r0), .second, .unset, .unset, .unset, .unset, .unset, .unset, .unset, .unset, .unset, .unset, .unset, .unset] [(.ref b1)])) _
    refine XS.lload X5.here hx rfl (hb hby at_28) rfl ?_
    show Steps p.tables e below (T5.setTop (mkF m 30 #[.val (.long x1), .second, .val (.long x2), .second, .val (.long x3), .second, .val (.long x4), .second, .val (.long x5), .second, .val (.long (x1 &&& (9223372036854775807 : Int64))), .second, .val (.ref b1), .val (.long r0), .second, .unset, .unset, .unset, .unset, .unset, .unset, .unset, .unset, .unset, .unset, .unset, .unset] [(.long r0), (.ref b1)])) _
    refine st6.trans ?_
    show Steps p.tables e below (T6.setTop (mkF m 33 #[.val (.long x1), .second, .val (.long x2), .second, .val (.long x3), .second, .val (.long x4), .second, .val (.long x5), .second, .val (.long (x1 &&& (9223372036854775807 : Int64))), .second, .val (.ref b1), .val (.long r0), .second, .unset, .unset, .unset, .unset, .unset, .unset, .unset, .unset, .unset, .unset, .unset, .unset] [(.int (1 : Int32))])) _
    refine XS.istore X6.here hx rfl (hb hby at_33) rfl (l' := #[.val (.long x1), .second, .val (.long x2), .second, .val (.long x3), .second, .val (.long x4), .second, .val (.long x5), .second, .val (.long (x1 &&& (9223372036854775807 : Int64))), .second, .val (.ref b1), .val (.long r0), .second, .val (.int (1 : Int32)), .unset, .unset, .unset, .unset, .unset, .unset, .unset, .unset, .unset, .unset, .unset]) rfl ?_
    show Steps p.tables e below (T6.setTop (mkF m 35 #[.val (.long x1), .second, .val (.long x2), .second, .val (.long x3), .second, .val (.long x4), .second, .val (.long x5), .second, .val (.long (x1 &&& (9223372036854775807 : Int64))), .second, .val (.ref b1), .val (.long r0), .second, .val (.int (1 : Int32)), .unset, .unset, .unset, .unset, .unset, .unset, .unset, .unset, .unset, .unset, .unset] [])) _
    refine XS.lload X6.here hx rfl (hb hby at_35) rfl ?_
    show Steps p.tables e below (T6.setTop (mkF m 37 #[.val (.long x1), .second, .val (.long x2), .second, .val (.long x3), .second, .val (.long x4), .second, .val (.long x5), .second, .val (.long (x1 &&& (9223372036854775807 : Int64))), .second, .val (.ref b1), .val (.long r0), .second, .val (.int (1 : Int32)), .unset, .unset, .unset, .unset, .unset, .unset, .unset, .unset, .unset, .unset, .unset] [(.long x3)])) _
    refine XS.lload X6.here hx rfl (hb hby at_37) rfl ?_
    show Steps p.tables e below (T6.setTop (mkF m 39 #[.val (.long x1), .second, .val (.long x2), .second, .val (.long x3), .second, .val (.long x4), .second, .val (.long x5), .second, .val (.long (x1 &&& (9223372036854775807 : Int64))), .second, .val (.ref b1), .val (.long r0), .second, .val (.int (1 : Int32)), .unset, .unset, .unset, .unset, .unset, .unset, .unset, .unset, .unset, .unset, .unset] [(.long r0), (.long x3)])) _
    refine st8 _ ?_
    show Steps p.tables e below (T8.setTop (mkF m 42 #[.val (.long x1), .second, .val (.long x2), .second, .val (.long x3), .second, .val (.long x4), .second, .val (.long x5), .second, .val (.long (x1 &&& (9223372036854775807 : Int64))), .second, .val (.ref b1), .val (.long r0), .second, .val (.int (1 : Int32)), .unset, .unset, .unset, .unset, .unset, .unset, .unset, .unset, .unset, .unset, .unset] [(.long r1)])) _
    refine XS.lstore X8.here hx rfl (hb hby at_42) rfl (l' := #[.val (.long x1), .second, .val (.long x2), .second, .val (.long x3), .second, .val (.long x4), .second, .val (.long x5), .second, .val (.long (x1 &&& (9223372036854775807 : Int64))), .second, .val (.ref b1), .val (.long r0), .second, .val (.int (1 : Int32)), .val (.long r1), .second, .unset, .unset, .unset, .unset, .unset, .unset, .unset, .unset, .unset]) rfl ?_
    show Steps p.tables e below (T8.setTop (mkF m 44 #[.val (.long x1), .second, .val (.long x2), .second, .val (.long x3), .second, .val (.long x4), .second, .val (.long x5), .second, .val (.long (x1 &&& (9223372036854775807 : Int64))), .second, .val (.ref b1), .val (.long r0), .second, .val (.int (1 : Int32)), .val (.long r1), .second, .unset, .unset, .unset, .unset, .unset, .unset, .unset, .unset, .unset] [])) _
    refine XS.aload X8.here hx rfl (hb hby at_44) rfl rfl ?_
    show Steps p.tables e below (T8.setTop (mkF m 46 #[.val (.long x1), .second, .val (.long x2), .second, .val (.long x3), .second, .val (.long x4), .second, .val (.long x5), .second, .val (.long (x1 &&& (9223372036854775807 : Int64))), .second, .val (.ref b1), .val (.long r0), .second, .val (.int (1 : Int32)), .val (.long r1), .second, .unset, .unset, .unset, .unset, .unset, .unset, .unset, .unset, .unset] [(.ref b1)])) _
    refine XS.lload X8.here hx rfl (hb hby at_46) rfl ?_
    show Steps p.tables e below (T8.setTop (mkF m 48 #[.val (.long x1), .second, .val (.long x2), .second, .val (.long x3), .second, .val (.long x4), .second, .val (.long x5), .second, .val (.long (x1 &&& (9223372036854775807 : Int64))), .second, .val (.ref b1), .val (.long r0), .second, .val (.int (1 : Int32)), .val (.long r1), .second, .unset, .unset, .unset, .unset, .unset, .unset, .unset, .unset, .unset] [(.long r1), (.ref b1)])) _
    refine st9.trans ?_
    show Steps p.tables e below (T9.setTop (mkF m 51 #[.val (.long x1), .second, .val (.long x2), .second, .val (.long x3), .second, .val (.long x4), .second, .val (.long x5), .second, .val (.long (x1 &&& (9223372036854775807 : Int64))), .second, .val (.ref b1), .val (.long r0), .second, .val (.int (1 : Int32)), .val (.long r1), .second, .unset, .unset, .unset, .unset, .unset, .unset, .unset, .unset, .unset] [])) _
    refine XS.iload X9.here hx rfl (hb hby at_51) rfl ?_
    show Steps p.tables e below (T9.setTop (mkF m 53 #[.val (.long x1), .second, .val (.long x2), .second, .val (.long x3), .second, .val (.long x4), .second, .val (.long x5), .second, .val (.long (x1 &&& (9223372036854775807 : Int64))), .second, .val (.ref b1), .val (.long r0), .second, .val (.int (1 : Int32)), .val (.long r1), .second, .unset, .unset, .unset, .unset, .unset, .unset, .unset, .unset, .unset] [(.int (1 : Int32))])) _
    refine XS.ifNo X9.here hx rfl (hb hby at_53) rfl ((if0 _ _).trans (feq (by decide : ¬ ((1 : Int32) = (0 : Int32)))).1) ?_
    show Steps p.tables e below (T9.setTop (mkF m 56 #[.val (.long x1), .second, .val (.long x2), .second, .val (.long x3), .second, .val (.long x4), .second, .val (.long x5), .second, .val (.long (x1 &&& (9223372036854775807 : Int64))), .second, .val (.ref b1), .val (.long r0), .second, .val (.int (1 : Int32)), .val (.long r1), .second, .unset, .unset, .unset, .unset, .unset, .unset, .unset, .unset, .unset] [])) _
    refine XS.aload X9.here hx rfl (hb hby at_56) rfl rfl ?_
    show Steps p.tables e below (T9.setTop (mkF m 58 #[.val (.long x1), .second, .val (.long x2), .second, .val (.long x3), .second, .val (.long x4), .second, .val (.long x5), .second, .val (.long (x1 &&& (9223372036854775807 : Int64))), .second, .val (.ref b1), .val (.long r0), .second, .val (.int (1 : Int32)), .val (.long r1), .second, .unset, .unset, .unset, .unset, .unset, .unset, .unset, .unset, .unset] [(.ref b1)])) _
    refine st11.trans ?_
    show Steps p.tables e below (T11.setTop (mkF m 61 #[.val (.long x1), .second, .val (.long x2), .second, .val (.long x3), .second, .val (.long x4), .second, .val (.long x5), .second, .val (.long (x1 &&& (9223372036854775807 : Int64))), .second, .val (.ref b1), .val (.long r0), .second, .val (.int (1 : Int32)), .val (.long r1), .second, .unset, .unset, .unset, .unset, .unset, .unset, .unset, .unset, .unset] [(.long ((x1 &&& (9223372036854775807 : Int64)) - r1))])) _
    refine XS.lload X11.here hx rfl (hb hby at_61) rfl ?_
    show Steps p.tables e below (T11.setTop (mkF m 63 #[.val (.long x1), .second, .val (.long x2), .second, .val (.long x3), .second, .val (.long x4), .second, .val (.long x5), .second, .val (.long (x1 &&& (9223372036854775807 : Int64))), .second, .val (.ref b1), .val (.long r0), .second, .val (.int (1 : Int32)), .val (.long r1), .second, .unset, .unset, .unset, .unset, .unset, .unset, .unset, .unset, .unset] [(.long (x1 &&& (9223372036854775807 : Int64))), (.long ((x1 &&& (9223372036854775807 : Int64)) - r1))])) _
    refine XS.lload X11.here hx rfl (hb hby at_63) rfl ?_
    show Steps p.tables e below (T11.setTop (mkF m 65 #[.val (.long x1), .second, .val (.long x2), .second, .val (.long x3), .second, .val (.long x4), .second, .val (.long x5), .second, .val (.long (x1 &&& (9223372036854775807 : Int64))), .second, .val (.ref b1), .val (.long r0), .second, .val (.int (1 : Int32)), .val (.long r1), .second, .unset, .unset, .unset, .unset, .unset, .unset, .unset, .unset, .unset] [(.long r1), (.long (x1 &&& (9223372036854775807 : Int64))), (.long ((x1 &&& (9223372036854775807 : Int64)) - r1))])) _
    refine XS.lsub X11.here hx rfl (hb hby at_65) rfl ?_
    show Steps p.tables e below (T11.setTop (mkF m 66 #[.val (.long x1), .second, .val (.long x2), .second, .val (.long x3), .second, .val (.long x4), .second, .val (.long x5), .second, .val (.long (x1 &&& (9223372036854775807 : Int64))), .second, .val (.ref b1), .val (.long r0), .second, .val (.int (1 : Int32)), .val (.long r1), .second, .unset, .unset, .unset, .unset, .unset, .unset, .unset, .unset, .unset] [(.long ((x1 &&& (9223372036854775807 : Int64)) - r1)), (.long ((x1 &&& (9223372036854775807 : Int64)) - r1))])) _
    refine XS.lcmp X11.here hx rfl (hb hby at_66) rfl ?_
    show Steps p.tables e below (T11.setTop (mkF m 67 #[.val (.long x1), .second, .val (.long x2), .second, .val (.long x3), .second, .val (.long x4), .second, .val (.long x5), .second, .val (.long (x1 &&& (9223372036854775807 : Int64))), .second, .val (.ref b1), .val (.long r0), .second, .val (.int (1 : Int32)), .val (.long r1), .second, .unset, .unset, .unset, .unset, .unset, .unset, .unset, .unset, .unset] [(.int (lcmpW ((x1 &&& (9223372036854775807 : Int64)) - r1) ((x1 &&& (9223372036854775807 : Int64)) - r1)))])) _
    refine XS.ifNo X11.here hx rfl (hb hby at_67) rfl ((if0 _ _).trans (teq ((lw_eq _ _).mpr (rfl : ((x1 &&& (9223372036854775807 : Int64)) - r1) = ((x1 &&& (9223372036854775807 : Int64)) - r1)))).2) ?_
    show Steps p.tables e below (T11.setTop (mkF m 70 #[.val (.long x1), .second, .val (.long x2), .second, .val (.long x3), .second, .val (.long x4), .second, .val (.long x5), .second, .val (.long (x1 &&& (9223372036854775807 : Int64))), .second, .val (.ref b1), .val (.long r0), .second, .val (.int (1 : Int32)), .val (.long r1), .second, .unset, .unset, .unset, .unset, .unset, .unset, .unset, .unset, .unset] [])) _
    refine XS.aload X11.here hx rfl (hb hby at_70) rfl rfl ?_
    show Steps p.tables e below (T11.setTop (mkF m 72 #[.val (.long x1), .second, .val (.long x2), .second, .val (.long x3), .second, .val (.long x4), .second, .val (.long x5), .second, .val (.long (x1 &&& (9223372036854775807 : Int64))), .second, .val (.ref b1), .val (.long r0), .second, .val (.int (1 : Int32)), .val (.long r1), .second, .unset, .unset, .unset, .unset, .unset, .unset, .unset, .unset, .unset] [(.ref b1)])) _
    refine st12.trans ?_
    show Steps p.tables e below (T12.setTop (mkF m 75 #[.val (.long x1), .second, .val (.long x2), .second, .val (.long x3), .second, .val (.long x4), .second, .val (.long x5), .second, .val (.long (x1 &&& (9223372036854775807 : Int64))), .second, .val (.ref b1), .val (.long r0), .second, .val (.int (1 : Int32)), .val (.long r1), .second, .unset, .unset, .unset, .unset, .unset, .unset, .unset, .unset, .unset] [(.long (if (0 : Int64) < r1 then r1 else (0 : Int64)))])) _
    refine XS.lload X12.here hx rfl (hb hby at_75) rfl ?_
    show Steps p.tables e below (T12.setTop (mkF m 77 #[.val (.long x1), .second, .val (.long x2), .second, .val (.long x3), .second, .val (.long x4), .second, .val (.long x5), .second, .val (.long (x1 &&& (9223372036854775807 : Int64))), .second, .val (.ref b1), .val (.long r0), .second, .val (.int (1 : Int32)), .val (.long r1), .second, .unset, .unset, .unset, .unset, .unset, .unset, .unset, .unset, .unset] [(.long r1), (.long (if (0 : Int64) < r1 then r1 else (0 : Int64)))])) _
    refine XS.lcmp X12.here hx rfl (hb hby at_77) rfl ?_
    show Steps p.tables e below (T12.setTop (mkF m 78 #[.val (.long x1), .second, .val (.long x2), .second, .val (.long x3), .second, .val (.long x4), .second, .val (.long x5), .second, .val (.long (x1 &&& (9223372036854775807 : Int64))), .second, .val (.ref b1), .val (.long r0), .second, .val (.int (1 : Int32)), .val (.long r1), .second, .unset, .unset, .unset, .unset, .unset, .unset, .unset, .unset, .unset] [(.int (lcmpW (if (0 : Int64) < r1 then r1 else (0 : Int64)) r1))])) _
    refine XS.ifNo X12.here hx rfl (hb hby at_78) rfl ((if0 _ _).trans (teq ((lw_eq _ _).mpr (own_E hu1.1 : (if (0 : Int64) < r1 then r1 else (0 : Int64)) = r1))).2) ?_
    show Steps p.tables e below (T12.setTop (mkF m 81 #[.val (.long x1), .second, .val (.long x2), .second, .val (.long x3), .second, .val (.long x4), .second, .val (.long x5), .second, .val (.long (x1 &&& (9223372036854775807 : Int64))), .second, .val (.ref b1), .val (.long r0), .second, .val (.int (1 : Int32)), .val (.long r1), .second, .unset, .unset, .unset, .unset, .unset, .unset, .unset, .unset, .unset] [])) _
    refine XS.iconst X12.here hx rfl (hb hby at_81) ?_
    show Steps p.tables e below (T12.setTop (mkF m 82 #[.val (.long x1), .second, .val (.long x2), .second, .val (.long x3), .second, .val (.long x4), .second, .val (.long x5), .second, .val (.long (x1 &&& (9223372036854775807 : Int64))), .second, .val (.ref b1), .val (.long r0), .second, .val (.int (1 : Int32)), .val (.long r1), .second, .unset, .unset, .unset, .unset, .unset, .unset, .unset, .unset, .unset] [(.int (1 : Int32))])) _
    refine XS.goto X12.here hx rfl (pc0 := 82) (pc' := 86) rfl (hb hby at_82) (by decide) (by decide) ?_
    show Steps p.tables e below (T12.setTop (mkF m 86 #[.val (.long x1), .second, .val (.long x2), .second, .val (.long x3), .second, .val (.long x4), .second, .val (.long x5), .second, .val (.long (x1 &&& (9223372036854775807 : Int64))), .second, .val (.ref b1), .val (.long r0), .second, .val (.int (1 : Int32)), .val (.long r1), .second, .unset, .unset, .unset, .unset, .unset, .unset, .unset, .unset, .unset] [(.int (1 : Int32))])) _
    refine XS.istore X12.here hx rfl (hb hby at_86) rfl (l' := #[.val (.long x1), .second, .val (.long x2), .second, .val (.long x3), .second, .val (.long x4), .second, .val (.long x5), .second, .val (.long (x1 &&& (9223372036854775807 : Int64))), .second, .val (.ref b1), .val (.long r0), .second, .val (.int (1 : Int32)), .val (.long r1), .second, .val (.int (1 : Int32)), .unset, .unset, .unset, .unset, .unset, .unset, .unset, .unset]) rfl ?_
    show Steps p.tables e below (T12.setTop (mkF m 88 #[.val (.long x1), .second, .val (.long x2), .second, .val (.long x3), .second, .val (.long x4), .second, .val (.long x5), .second, .val (.long (x1 &&& (9223372036854775807 : Int64))), .second, .val (.ref b1), .val (.long r0), .second, .val (.int (1 : Int32)), .val (.long r1), .second, .val (.int (1 : Int32)), .unset, .unset, .unset, .unset, .unset, .unset, .unset, .unset] [])) _
    refine XS.lload X12.here hx rfl (hb hby at_88) rfl ?_
    show Steps p.tables e below (T12.setTop (mkF m 90 #[.val (.long x1), .second, .val (.long x2), .second, .val (.long x3), .second, .val (.long x4), .second, .val (.long x5), .second, .val (.long (x1 &&& (9223372036854775807 : Int64))), .second, .val (.ref b1), .val (.long r0), .second, .val (.int (1 : Int32)), .val (.long r1), .second, .val (.int (1 : Int32)), .unset, .unset, .unset, .unset, .unset, .unset, .unset, .unset] [(.long x4)])) _
    refine XS.lload X12.here hx rfl (hb hby at_90) rfl ?_
    show Steps p.tables e below (T12.setTop (mkF m 92 #[.val (.long x1), .second, .val (.long x2), .second, .val (.long x3), .second, .val (.long x4), .second, .val (.long x5), .second, .val (.long (x1 &&& (9223372036854775807 : Int64))), .second, .val (.ref b1), .val (.long r0), .second, .val (.int (1 : Int32)), .val (.long r1), .second, .val (.int (1 : Int32)), .unset, .unset, .unset, .unset, .unset, .unset, .unset, .unset] [(.long (x1 &&& (9223372036854775807 : Int64))), (.long x4)])) _
    refine XS.lload X12.here hx rfl (hb hby at_92) rfl ?_
    show Steps p.tables e below (T12.setTop (mkF m 94 #[.val (.long x1), .second, .val (.long x2), .second, .val (.long x3), .second, .val (.long x4), .second, .val (.long x5), .second, .val (.long (x1 &&& (9223372036854775807 : Int64))), .second, .val (.ref b1), .val (.long r0), .second, .val (.int (1 : Int32)), .val (.long r1), .second, .val (.int (1 : Int32)), .unset, .unset, .unset, .unset, .unset, .unset, .unset, .unset] [(.long r1), (.long (x1 &&& (9223372036854775807 : Int64))), (.long x4)])) _
    refine XS.lsub X12.here hx rfl (hb hby at_94) rfl ?_
    show Steps p.tables e below (T12.setTop (mkF m 95 #[.val (.long x1), .second, .val (.long x2), .second, .val (.long x3), .second, .val (.long x4), .second, .val (.long x5), .second, .val (.long (x1 &&& (9223372036854775807 : Int64))), .second, .val (.ref b1), .val (.long r0), .second, .val (.int (1 : Int32)), .val (.long r1), .second, .val (.int (1 : Int32)), .unset, .unset, .unset, .unset, .unset, .unset, .unset, .unset] [(.long ((x1 &&& (9223372036854775807 : Int64)) - r1)), (.long x4)])) _
    refine st13 _ ?_
    show Steps p.tables e below (T13.setTop (mkF m 98 #[.val (.long x1), .second, .val (.long x2), .second, .val (.long x3), .second, .val (.long x4), .second, .val (.long x5), .second, .val (.long (x1 &&& (9223372036854775807 : Int64))), .second, .val (.ref b1), .val (.long r0), .second, .val (.int (1 : Int32)), .val (.long r1), .second, .val (.int (1 : Int32)), .unset, .unset, .unset, .unset, .unset, .unset, .unset, .unset] [(.long r2)])) _
    refine XS.lstore X13.here hx rfl (hb hby at_98) rfl (l' := #[.val (.long x1), .second, .val (.long x2), .second, .val (.long x3), .second, .val (.long x4), .second, .val (.long x5), .second, .val (.long (x1 &&& (9223372036854775807 : Int64))), .second, .val (.ref b1), .val (.long r0), .second, .val (.int (1 : Int32)), .val (.long r1), .second, .val (.int (1 : Int32)), .val (.long r2), .second, .unset, .unset, .unset, .unset, .unset, .unset]) rfl ?_
    show Steps p.tables e below (T13.setTop (mkF m 100 #[.val (.long x1), .second, .val (.long x2), .second, .val (.long x3), .second, .val (.long x4), .second, .val (.long x5), .second, .val (.long (x1 &&& (9223372036854775807 : Int64))), .second, .val (.ref b1), .val (.long r0), .second, .val (.int (1 : Int32)), .val (.long r1), .second, .val (.int (1 : Int32)), .val (.long r2), .second, .unset, .unset, .unset, .unset, .unset, .unset] [])) _
    refine XS.aload X13.here hx rfl (hb hby at_100) rfl rfl ?_
    show Steps p.tables e below (T13.setTop (mkF m 102 #[.val (.long x1), .second, .val (.long x2), .second, .val (.long x3), .second, .val (.long x4), .second, .val (.long x5), .second, .val (.long (x1 &&& (9223372036854775807 : Int64))), .second, .val (.ref b1), .val (.long r0), .second, .val (.int (1 : Int32)), .val (.long r1), .second, .val (.int (1 : Int32)), .val (.long r2), .second, .unset, .unset, .unset, .unset, .unset, .unset] [(.ref b1)])) _
    refine XS.lload X13.here hx rfl (hb hby at_102) rfl ?_
    show Steps p.tables e below (T13.setTop (mkF m 104 #[.val (.long x1), .second, .val (.long x2), .second, .val (.long x3), .second, .val (.long x4), .second, .val (.long x5), .second, .val (.long (x1 &&& (9223372036854775807 : Int64))), .second, .val (.ref b1), .val (.long r0), .second, .val (.int (1 : Int32)), .val (.long r1), .second, .val (.int (1 : Int32)), .val (.long r2), .second, .unset, .unset, .unset, .unset, .unset, .unset] [(.long r2), (.ref b1)])) _
    refine st14.trans ?_
    show Steps p.tables e below (T14.setTop (mkF m 107 #[.val (.long x1), .second, .val (.long x2), .second, .val (.long x3), .second, .val (.long x4), .second, .val (.long x5), .second, .val (.long (x1 &&& (9223372036854775807 : Int64))), .second, .val (.ref b1), .val (.long r0), .second, .val (.int (1 : Int32)), .val (.long r1), .second, .val (.int (1 : Int32)), .val (.long r2), .second, .unset, .unset, .unset, .unset, .unset, .unset] [(.int (1 : Int32))])) _
    refine XS.istore X14.here hx rfl (hb hby at_107) rfl (l' := #[.val (.long x1), .second, .val (.long x2), .second, .val (.long x3), .second, .val (.long x4), .second, .val (.long x5), .second, .val (.long (x1 &&& (9223372036854775807 : Int64))), .second, .val (.ref b1), .val (.long r0), .second, .val (.int (1 : Int32)), .val (.long r1), .second, .val (.int (1 : Int32)), .val (.long r2), .second, .val (.int (1 : Int32)), .unset, .unset, .unset, .unset, .unset]) rfl ?_
    show Steps p.tables e below (T14.setTop (mkF m 109 #[.val (.long x1), .second, .val (.long x2), .second, .val (.long x3), .second, .val (.long x4), .second, .val (.long x5), .second, .val (.long (x1 &&& (9223372036854775807 : Int64))), .second, .val (.ref b1), .val (.long r0), .second, .val (.int (1 : Int32)), .val (.long r1), .second, .val (.int (1 : Int32)), .val (.long r2), .second, .val (.int (1 : Int32)), .unset, .unset, .unset, .unset, .unset] [])) _
    refine XS.lload X14.here hx rfl (hb hby at_109) rfl ?_
    show Steps p.tables e below (T14.setTop (mkF m 111 #[.val (.long x1), .second, .val (.long x2), .second, .val (.long x3), .second, .val (.long x4), .second, .val (.long x5), .second, .val (.long (x1 &&& (9223372036854775807 : Int64))), .second, .val (.ref b1), .val (.long r0), .second, .val (.int (1 : Int32)), .val (.long r1), .second, .val (.int (1 : Int32)), .val (.long r2), .second, .val (.int (1 : Int32)), .unset, .unset, .unset, .unset, .unset] [(.long x5)])) _
    refine XS.lload X14.here hx rfl (hb hby at_111) rfl ?_
    show Steps p.tables e below (T14.setTop (mkF m 113 #[.val (.long x1), .second, .val (.long x2), .second, .val (.long x3), .second, .val (.long x4), .second, .val (.long x5), .second, .val (.long (x1 &&& (9223372036854775807 : Int64))), .second, .val (.ref b1), .val (.long r0), .second, .val (.int (1 : Int32)), .val (.long r1), .second, .val (.int (1 : Int32)), .val (.long r2), .second, .val (.int (1 : Int32)), .unset, .unset, .unset, .unset, .unset] [(.long r1), (.long x5)])) _
    refine XS.lload X14.here hx rfl (hb hby at_113) rfl ?_
    show Steps p.tables e below (T14.setTop (mkF m 115 #[.val (.long x1), .second, .val (.long x2), .second, .val (.long x3), .second, .val (.long x4), .second, .val (.long x5), .second, .val (.long (x1 &&& (9223372036854775807 : Int64))), .second, .val (.ref b1), .val (.long r0), .second, .val (.int (1 : Int32)), .val (.long r1), .second, .val (.int (1 : Int32)), .val (.long r2), .second, .val (.int (1 : Int32)), .unset, .unset, .unset, .unset, .unset] [(.long r2), (.long r1), (.long x5)])) _
    refine XS.ladd X14.here hx rfl (hb hby at_115) rfl ?_
    show Steps p.tables e below (T14.setTop (mkF m 116 #[.val (.long x1), .second, .val (.long x2), .second, .val (.long x3), .second, .val (.long x4), .second, .val (.long x5), .second, .val (.long (x1 &&& (9223372036854775807 : Int64))), .second, .val (.ref b1), .val (.long r0), .second, .val (.int (1 : Int32)), .val (.long r1), .second, .val (.int (1 : Int32)), .val (.long r2), .second, .val (.int (1 : Int32)), .unset, .unset, .unset, .unset, .unset] [(.long (r1 + r2)), (.long x5)])) _
    refine st16 _ ?_
    show Steps p.tables e below (T16.setTop (mkF m 119 #[.val (.long x1), .second, .val (.long x2), .second, .val (.long x3), .second, .val (.long x4), .second, .val (.long x5), .second, .val (.long (x1 &&& (9223372036854775807 : Int64))), .second, .val (.ref b1), .val (.long r0), .second, .val (.int (1 : Int32)), .val (.long r1), .second, .val (.int (1 : Int32)), .val (.long r2), .second, .val (.int (1 : Int32)), .unset, .unset, .unset, .unset, .unset] [(.long r3)])) _
    refine XS.lstore X16.here hx rfl (hb hby at_119) rfl (l' := #[.val (.long x1), .second, .val (.long x2), .second, .val (.long x3), .second, .val (.long x4), .second, .val (.long x5), .second, .val (.long (x1 &&& (9223372036854775807 : Int64))), .second, .val (.ref b1), .val (.long r0), .second, .val (.int (1 : Int32)), .val (.long r1), .second, .val (.int (1 : Int32)), .val (.long r2), .second, .val (.int (1 : Int32)), .val (.long r3), .second, .unset, .unset, .unset]) rfl ?_
    show Steps p.tables e below (T16.setTop (mkF m 121 #[.val (.long x1), .second, .val (.long x2), .second, .val (.long x3), .second, .val (.long x4), .second, .val (.long x5), .second, .val (.long (x1 &&& (9223372036854775807 : Int64))), .second, .val (.ref b1), .val (.long r0), .second, .val (.int (1 : Int32)), .val (.long r1), .second, .val (.int (1 : Int32)), .val (.long r2), .second, .val (.int (1 : Int32)), .val (.long r3), .second, .unset, .unset, .unset] [])) _
    refine XS.aload X16.here hx rfl (hb hby at_121) rfl rfl ?_
    show Steps p.tables e below (T16.setTop (mkF m 123 #[.val (.long x1), .second, .val (.long x2), .second, .val (.long x3), .second, .val (.long x4), .second, .val (.long x5), .second, .val (.long (x1 &&& (9223372036854775807 : Int64))), .second, .val (.ref b1), .val (.long r0), .second, .val (.int (1 : Int32)), .val (.long r1), .second, .val (.int (1 : Int32)), .val (.long r2), .second, .val (.int (1 : Int32)), .val (.long r3), .second, .unset, .unset, .unset] [(.ref b1)])) _
    refine XS.lload X16.here hx rfl (hb hby at_123) rfl ?_
    show Steps p.tables e below (T16.setTop (mkF m 125 #[.val (.long x1), .second, .val (.long x2), .second, .val (.long x3), .second, .val (.long x4), .second, .val (.long x5), .second, .val (.long (x1 &&& (9223372036854775807 : Int64))), .second, .val (.ref b1), .val (.long r0), .second, .val (.int (1 : Int32)), .val (.long r1), .second, .val (.int (1 : Int32)), .val (.long r2), .second, .val (.int (1 : Int32)), .val (.long r3), .second, .unset, .unset, .unset] [(.long r3), (.ref b1)])) _
    refine st17.trans ?_
    show Steps p.tables e below (T17.setTop (mkF m 128 #[.val (.long x1), .second, .val (.long x2), .second, .val (.long x3), .second, .val (.long x4), .second, .val (.long x5), .second, .val (.long (x1 &&& (9223372036854775807 : Int64))), .second, .val (.ref b1), .val (.long r0), .second, .val (.int (1 : Int32)), .val (.long r1), .second, .val (.int (1 : Int32)), .val (.long r2), .second, .val (.int (1 : Int32)), .val (.long r3), .second, .unset, .unset, .unset] [])) _
    refine XS.lload X17.here hx rfl (hb hby at_128) rfl ?_
    show Steps p.tables e below (T17.setTop (mkF m 130 #[.val (.long x1), .second, .val (.long x2), .second, .val (.long x3), .second, .val (.long x4), .second, .val (.long x5), .second, .val (.long (x1 &&& (9223372036854775807 : Int64))), .second, .val (.ref b1), .val (.long r0), .second, .val (.int (1 : Int32)), .val (.long r1), .second, .val (.int (1 : Int32)), .val (.long r2), .second, .val (.int (1 : Int32)), .val (.long r3), .second, .unset, .unset, .unset] [(.long (x1 &&& (9223372036854775807 : Int64)))])) _
    refine XS.lload X17.here hx rfl (hb hby at_130) rfl ?_
    show Steps p.tables e below (T17.setTop (mkF m 132 #[.val (.long x1), .second, .val (.long x2), .second, .val (.long x3), .second, .val (.long x4), .second, .val (.long x5), .second, .val (.long (x1 &&& (9223372036854775807 : Int64))), .second, .val (.ref b1), .val (.long r0), .second, .val (.int (1 : Int32)), .val (.long r1), .second, .val (.int (1 : Int32)), .val (.long r2), .second, .val (.int (1 : Int32)), .val (.long r3), .second, .unset, .unset, .unset] [(.long r0), (.long (x1 &&& (9223372036854775807 : Int64)))])) _
    refine XS.lsub X17.here hx rfl (hb hby at_132) rfl ?_
    show Steps p.tables e below (T17.setTop (mkF m 133 #[.val (.long x1), .second, .val (.long x2), .second, .val (.long x3), .second, .val (.long x4), .second, .val (.long x5), .second, .val (.long (x1 &&& (9223372036854775807 : Int64))), .second, .val (.ref b1), .val (.long r0), .second, .val (.int (1 : Int32)), .val (.long r1), .second, .val (.int (1 : Int32)), .val (.long r2), .second, .val (.int (1 : Int32)), .val (.long r3), .second, .unset, .unset, .unset] [(.long ((x1 &&& (9223372036854775807 : Int64)) - r0))])) _
    refine XS.lload X17.here hx rfl (hb hby at_133) rfl ?_
    show Steps p.tables e below (T17.setTop (mkF m 135 #[.val (.long x1), .second, .val (.long x2), .second, .val (.long x3), .second, .val (.long x4), .second, .val (.long x5), .second, .val (.long (x1 &&& (9223372036854775807 : Int64))), .second, .val (.ref b1), .val (.long r0), .second, .val (.int (1 : Int32)), .val (.long r1), .second, .val (.int (1 : Int32)), .val (.long r2), .second, .val (.int (1 : Int32)), .val (.long r3), .second, .unset, .unset, .unset] [(.long (x1 &&& (9223372036854775807 : Int64))), (.long ((x1 &&& (9223372036854775807 : Int64)) - r0))])) _
    refine XS.lload X17.here hx rfl (hb hby at_135) rfl ?_
    show Steps p.tables e below (T17.setTop (mkF m 137 #[.val (.long x1), .second, .val (.long x2), .second, .val (.long x3), .second, .val (.long x4), .second, .val (.long x5), .second, .val (.long (x1 &&& (9223372036854775807 : Int64))), .second, .val (.ref b1), .val (.long r0), .second, .val (.int (1 : Int32)), .val (.long r1), .second, .val (.int (1 : Int32)), .val (.long r2), .second, .val (.int (1 : Int32)), .val (.long r3), .second, .unset, .unset, .unset] [(.long r1), (.long (x1 &&& (9223372036854775807 : Int64))), (.long ((x1 &&& (9223372036854775807 : Int64)) - r0))])) _
    refine XS.lsub X17.here hx rfl (hb hby at_137) rfl ?_
    show Steps p.tables e below (T17.setTop (mkF m 138 #[.val (.long x1), .second, .val (.long x2), .second, .val (.long x3), .second, .val (.long x4), .second, .val (.long x5), .second, .val (.long (x1 &&& (9223372036854775807 : Int64))), .second, .val (.ref b1), .val (.long r0), .second, .val (.int (1 : Int32)), .val (.long r1), .second, .val (.int (1 : Int32)), .val (.long r2), .second, .val (.int (1 : Int32)), .val (.long r3), .second, .unset, .unset, .unset] [(.long ((x1 &&& (9223372036854775807 : Int64)) - r1)), (.long ((x1 &&& (9223372036854775807 : Int64)) - r0))])) _
    refine XS.lload X17.here hx rfl (hb hby at_138) rfl ?_
    show Steps p.tables e below (T17.setTop (mkF m 140 #[.val (.long x1), .second, .val (.long x2), .second, .val (.long x3), .second, .val (.long x4), .second, .val (.long x5), .second, .val (.long (x1 &&& (9223372036854775807 : Int64))), .second, .val (.ref b1), .val (.long r0), .second, .val (.int (1 : Int32)), .val (.long r1), .second, .val (.int (1 : Int32)), .val (.long r2), .second, .val (.int (1 : Int32)), .val (.long r3), .second, .unset, .unset, .unset] [(.long r2), (.long ((x1 &&& (9223372036854775807 : Int64)) - r1)), (.long ((x1 &&& (9223372036854775807 : Int64)) - r0))])) _
    refine XS.lsub X17.here hx rfl (hb hby at_140) rfl ?_
    show Steps p.tables e below (T17.setTop (mkF m 141 #[.val (.long x1), .second, .val (.long x2), .second, .val (.long x3), .second, .val (.long x4), .second, .val (.long x5), .second, .val (.long (x1 &&& (9223372036854775807 : Int64))), .second, .val (.ref b1), .val (.long r0), .second, .val (.int (1 : Int32)), .val (.long r1), .second, .val (.int (1 : Int32)), .val (.long r2), .second, .val (.int (1 : Int32)), .val (.long r3), .second, .unset, .unset, .unset] [(.long (((x1 &&& (9223372036854775807 : Int64)) - r1) - r2)), (.long ((x1 &&& (9223372036854775807 : Int64)) - r0))])) _
    refine st19 _ ?_
    show Steps p.tables e below (T19.setTop (mkF m 144 #[.val (.long x1), .second, .val (.long x2), .second, .val (.long x3), .second, .val (.long x4), .second, .val (.long x5), .second, .val (.long (x1 &&& (9223372036854775807 : Int64))), .second, .val (.ref b1), .val (.long r0), .second, .val (.int (1 : Int32)), .val (.long r1), .second, .val (.int (1 : Int32)), .val (.long r2), .second, .val (.int (1 : Int32)), .val (.long r3), .second, .unset, .unset, .unset] [(.long (if (((x1 &&& (9223372036854775807 : Int64)) - r1) - r2) < ((x1 &&& (9223372036854775807 : Int64)) - r0) then (((x1 &&& (9223372036854775807 : Int64)) - r1) - r2) else ((x1 &&& (9223372036854775807 : Int64)) - r0)))])) _
    refine XS.lstore X19.here hx rfl (hb hby at_144) rfl (l' := #[.val (.long x1), .second, .val (.long x2), .second, .val (.long x3), .second, .val (.long x4), .second, .val (.long x5), .second, .val (.long (x1 &&& (9223372036854775807 : Int64))), .second, .val (.ref b1), .val (.long r0), .second, .val (.int (1 : Int32)), .val (.long r1), .second, .val (.int (1 : Int32)), .val (.long r2), .second, .val (.int (1 : Int32)), .val (.long r3), .second, .val (.long (if (((x1 &&& (9223372036854775807 : Int64)) - r1) - r2) < ((x1 &&& (9223372036854775807 : Int64)) - r0) then (((x1 &&& (9223372036854775807 : Int64)) - r1) - r2) else ((x1 &&& (9223372036854775807 : Int64)) - r0))), .second, .unset]) rfl ?_
    show Steps p.tables e below (T19.setTop (mkF m 146 #[.val (.long x1), .second, .val (.long x2), .second, .val (.long x3), .second, .val (.long x4), .second, .val (.long x5), .second, .val (.long (x1 &&& (9223372036854775807 : Int64))), .second, .val (.ref b1), .val (.long r0), .second, .val (.int (1 : Int32)), .val (.long r1), .second, .val (.int (1 : Int32)), .val (.long r2), .second, .val (.int (1 : Int32)), .val (.long r3), .second, .val (.long (if (((x1 &&& (9223372036854775807 : Int64)) - r1) - r2) < ((x1 &&& (9223372036854775807 : Int64)) - r0) then (((x1 &&& (9223372036854775807 : Int64)) - r1) - r2) else ((x1 &&& (9223372036854775807 : Int64)) - r0))), .second, .unset] [])) _
    refine XS.iload X19.here hx rfl (hb hby at_146) rfl ?_
    show Steps p.tables e below (T19.setTop (mkF m 148 #[.val (.long x1), .second, .val (.long x2), .second, .val (.long x3), .second, .val (.long x4), .second, .val (.long x5), .second, .val (.long (x1 &&& (9223372036854775807 : Int64))), .second, .val (.ref b1), .val (.long r0), .second, .val (.int (1 : Int32)), .val (.long r1), .second, .val (.int (1 : Int32)), .val (.long r2), .second, .val (.int (1 : Int32)), .val (.long r3), .second, .val (.long (if (((x1 &&& (9223372036854775807 : Int64)) - r1) - r2) < ((x1 &&& (9223372036854775807 : Int64)) - r0) then (((x1 &&& (9223372036854775807 : Int64)) - r1) - r2) else ((x1 &&& (9223372036854775807 : Int64)) - r0))), .second, .unset] [(.int (1 : Int32))])) _
    refine XS.ifNo X19.here hx rfl (hb hby at_148) rfl ((if0 _ _).trans (feq (by decide : ¬ ((1 : Int32) = (0 : Int32)))).1) ?_
    show Steps p.tables e below (T19.setTop (mkF m 151 #[.val (.long x1), .second, .val (.long x2), .second, .val (.long x3), .second, .val (.long x4), .second, .val (.long x5), .second, .val (.long (x1 &&& (9223372036854775807 : Int64))), .second, .val (.ref b1), .val (.long r0), .second, .val (.int (1 : Int32)), .val (.long r1), .second, .val (.int (1 : Int32)), .val (.long r2), .second, .val (.int (1 : Int32)), .val (.long r3), .second, .val (.long (if (((x1 &&& (9223372036854775807 : Int64)) - r1) - r2) < ((x1 &&& (9223372036854775807 : Int64)) - r0) then (((x1 &&& (9223372036854775807 : Int64)) - r1) - r2) else ((x1 &&& (9223372036854775807 : Int64)) - r0))), .second, .unset] [])) _
    refine XS.aload X19.here hx rfl (hb hby at_151) rfl rfl ?_
    show Steps p.tables e below (T19.setTop (mkF m 153 #[.val (.long x1), .second, .val (.long x2), .second, .val (.long x3), .second, .val (.long x4), .second, .val (.long x5), .second, .val (.long (x1 &&& (9223372036854775807 : Int64))), .second, .val (.ref b1), .val (.long r0), .second, .val (.int (1 : Int32)), .val (.long r1), .second, .val (.int (1 : Int32)), .val (.long r2), .second, .val (.int (1 : Int32)), .val (.long r3), .second, .val (.long (if (((x1 &&& (9223372036854775807 : Int64)) - r1) - r2) < ((x1 &&& (9223372036854775807 : Int64)) - r0) then (((x1 &&& (9223372036854775807 : Int64)) - r1) - r2) else ((x1 &&& (9223372036854775807 : Int64)) - r0))), .second, .unset] [(.ref b1)])) _
    refine st20.trans ?_
    show Steps p.tables e below (T20.setTop (mkF m 156 #[.val (.long x1), .second, .val (.long x2), .second, .val (.long x3), .second, .val (.long x4), .second, .val (.long x5), .second, .val (.long (x1 &&& (9223372036854775807 : Int64))), .second, .val (.ref b1), .val (.long r0), .second, .val (.int (1 : Int32)), .val (.long r1), .second, .val (.int (1 : Int32)), .val (.long r2), .second, .val (.int (1 : Int32)), .val (.long r3), .second, .val (.long (if (((x1 &&& (9223372036854775807 : Int64)) - r1) - r2) < ((x1 &&& (9223372036854775807 : Int64)) - r0) then (((x1 &&& (9223372036854775807 : Int64)) - r1) - r2) else ((x1 &&& (9223372036854775807 : Int64)) - r0))), .second, .unset] [(.long ((x1 &&& (9223372036854775807 : Int64)) - r3))])) _
    refine XS.lload X20.here hx rfl (hb hby at_156) rfl ?_
    show Steps p.tables e below (T20.setTop (mkF m 158 #[.val (.long x1), .second, .val (.long x2), .second, .val (.long x3), .second, .val (.long x4), .second, .val (.long x5), .second, .val (.long (x1 &&& (9223372036854775807 : Int64))), .second, .val (.ref b1), .val (.long r0), .second, .val (.int (1 : Int32)), .val (.long r1), .second, .val (.int (1 : Int32)), .val (.long r2), .second, .val (.int (1 : Int32)), .val (.long r3), .second, .val (.long (if (((x1 &&& (9223372036854775807 : Int64)) - r1) - r2) < ((x1 &&& (9223372036854775807 : Int64)) - r0) then (((x1 &&& (9223372036854775807 : Int64)) - r1) - r2) else ((x1 &&& (9223372036854775807 : Int64)) - r0))), .second, .unset] [(.long (x1 &&& (9223372036854775807 : Int64))), (.long ((x1 &&& (9223372036854775807 : Int64)) - r3))])) _
    refine XS.lload X20.here hx rfl (hb hby at_158) rfl ?_
    show Steps p.tables e below (T20.setTop (mkF m 160 #[.val (.long x1), .second, .val (.long x2), .second, .val (.long x3), .second, .val (.long x4), .second, .val (.long x5), .second, .val (.long (x1 &&& (9223372036854775807 : Int64))), .second, .val (.ref b1), .val (.long r0), .second, .val (.int (1 : Int32)), .val (.long r1), .second, .val (.int (1 : Int32)), .val (.long r2), .second, .val (.int (1 : Int32)), .val (.long r3), .second, .val (.long (if (((x1 &&& (9223372036854775807 : Int64)) - r1) - r2) < ((x1 &&& (9223372036854775807 : Int64)) - r0) then (((x1 &&& (9223372036854775807 : Int64)) - r1) - r2) else ((x1 &&& (9223372036854775807 : Int64)) - r0))), .second, .unset] [(.long r3), (.long (x1 &&& (9223372036854775807 : Int64))), (.long ((x1 &&& (9223372036854775807 : Int64)) - r3))])) _
    refine XS.lsub X20.here hx rfl (hb hby at_160) rfl ?_
    show Steps p.tables e below (T20.setTop (mkF m 161 #[.val (.long x1), .second, .val (.long x2), .second, .val (.long x3), .second, .val (.long x4), .second, .val (.long x5), .second, .val (.long (x1 &&& (9223372036854775807 : Int64))), .second, .val (.ref b1), .val (.long r0), .second, .val (.int (1 : Int32)), .val (.long r1), .second, .val (.int (1 : Int32)), .val (.long r2), .second, .val (.int (1 : Int32)), .val (.long r3), .second, .val (.long (if (((x1 &&& (9223372036854775807 : Int64)) - r1) - r2) < ((x1 &&& (9223372036854775807 : Int64)) - r0) then (((x1 &&& (9223372036854775807 : Int64)) - r1) - r2) else ((x1 &&& (9223372036854775807 : Int64)) - r0))), .second, .unset] [(.long ((x1 &&& (9223372036854775807 : Int64)) - r3)), (.long ((x1 &&& (9223372036854775807 : Int64)) - r3))])) _
    refine XS.lcmp X20.here hx rfl (hb hby at_161) rfl ?_
    show Steps p.tables e below (T20.setTop (mkF m 162 #[.val (.long x1), .second, .val (.long x2), .second, .val (.long x3), .second, .val (.long x4), .second, .val (.long x5), .second, .val (.long (x1 &&& (9223372036854775807 : Int64))), .second, .val (.ref b1), .val (.long r0), .second, .val (.int (1 : Int32)), .val (.long r1), .second, .val (.int (1 : Int32)), .val (.long r2), .second, .val (.int (1 : Int32)), .val (.long r3), .second, .val (.long (if (((x1 &&& (9223372036854775807 : Int64)) - r1) - r2) < ((x1 &&& (9223372036854775807 : Int64)) - r0) then (((x1 &&& (9223372036854775807 : Int64)) - r1) - r2) else ((x1 &&& (9223372036854775807 : Int64)) - r0))), .second, .unset] [(.int (lcmpW ((x1 &&& (9223372036854775807 : Int64)) - r3) ((x1 &&& (9223372036854775807 : Int64)) - r3)))])) _
    refine XS.ifNo X20.here hx rfl (hb hby at_162) rfl ((if0 _ _).trans (teq ((lw_eq _ _).mpr (rfl : ((x1 &&& (9223372036854775807 : Int64)) - r3) = ((x1 &&& (9223372036854775807 : Int64)) - r3)))).2) ?_
    show Steps p.tables e below (T20.setTop (mkF m 165 #[.val (.long x1), .second, .val (.long x2), .second, .val (.long x3), .second, .val (.long x4), .second, .val (.long x5), .second, .val (.long (x1 &&& (9223372036854775807 : Int64))), .second, .val (.ref b1), .val (.long r0), .second, .val (.int (1 : Int32)), .val (.long r1), .second, .val (.int (1 : Int32)), .val (.long r2), .second, .val (.int (1 : Int32)), .val (.long r3), .second, .val (.long (if (((x1 &&& (9223372036854775807 : Int64)) - r1) - r2) < ((x1 &&& (9223372036854775807 : Int64)) - r0) then (((x1 &&& (9223372036854775807 : Int64)) - r1) - r2) else ((x1 &&& (9223372036854775807 : Int64)) - r0))), .second, .unset] [])) _
    refine XS.aload X20.here hx rfl (hb hby at_165) rfl rfl ?_
    show Steps p.tables e below (T20.setTop (mkF m 167 #[.val (.long x1), .second, .val (.long x2), .second, .val (.long x3), .second, .val (.long x4), .second, .val (.long x5), .second, .val (.long (x1 &&& (9223372036854775807 : Int64))), .second, .val (.ref b1), .val (.long r0), .second, .val (.int (1 : Int32)), .val (.long r1), .second, .val (.int (1 : Int32)), .val (.long r2), .second, .val (.int (1 : Int32)), .val (.long r3), .second, .val (.long (if (((x1 &&& (9223372036854775807 : Int64)) - r1) - r2) < ((x1 &&& (9223372036854775807 : Int64)) - r0) then (((x1 &&& (9223372036854775807 : Int64)) - r1) - r2) else ((x1 &&& (9223372036854775807 : Int64)) - r0))), .second, .unset] [(.ref b1)])) _
    refine st21.trans ?_
    show Steps p.tables e below (T21.setTop (mkF m 170 #[.val (.long x1), .second, .val (.long x2), .second, .val (.long x3), .second, .val (.long x4), .second, .val (.long x5), .second, .val (.long (x1 &&& (9223372036854775807 : Int64))), .second, .val (.ref b1), .val (.long r0), .second, .val (.int (1 : Int32)), .val (.long r1), .second, .val (.int (1 : Int32)), .val (.long r2), .second, .val (.int (1 : Int32)), .val (.long r3), .second, .val (.long (if (((x1 &&& (9223372036854775807 : Int64)) - r1) - r2) < ((x1 &&& (9223372036854775807 : Int64)) - r0) then (((x1 &&& (9223372036854775807 : Int64)) - r1) - r2) else ((x1 &&& (9223372036854775807 : Int64)) - r0))), .second, .unset] [(.long (if ((x1 &&& (9223372036854775807 : Int64)) - (r1 + r2)) < (if ((x1 &&& (9223372036854775807 : Int64)) - ((0 : Int64) + r0)) < (x1 &&& (9223372036854775807 : Int64)) then ((x1 &&& (9223372036854775807 : Int64)) - ((0 : Int64) + r0)) else (x1 &&& (9223372036854775807 : Int64))) then ((x1 &&& (9223372036854775807 : Int64)) - (r1 + r2)) else (if ((x1 &&& (9223372036854775807 : Int64)) - ((0 : Int64) + r0)) < (x1 &&& (9223372036854775807 : Int64)) then ((x1 &&& (9223372036854775807 : Int64)) - ((0 : Int64) + r0)) else (x1 &&& (9223372036854775807 : Int64)))))])) _
    refine XS.lload X21.here hx rfl (hb hby at_170) rfl ?_
    show Steps p.tables e below (T21.setTop (mkF m 172 #[.val (.long x1), .second, .val (.long x2), .second, .val (.long x3), .second, .val (.long x4), .second, .val (.long x5), .second, .val (.long (x1 &&& (9223372036854775807 : Int64))), .second, .val (.ref b1), .val (.long r0), .second, .val (.int (1 : Int32)), .val (.long r1), .second, .val (.int (1 : Int32)), .val (.long r2), .second, .val (.int (1 : Int32)), .val (.long r3), .second, .val (.long (if (((x1 &&& (9223372036854775807 : Int64)) - r1) - r2) < ((x1 &&& (9223372036854775807 : Int64)) - r0) then (((x1 &&& (9223372036854775807 : Int64)) - r1) - r2) else ((x1 &&& (9223372036854775807 : Int64)) - r0))), .second, .unset] [(.long (if (((x1 &&& (9223372036854775807 : Int64)) - r1) - r2) < ((x1 &&& (9223372036854775807 : Int64)) - r0) then (((x1 &&& (9223372036854775807 : Int64)) - r1) - r2) else ((x1 &&& (9223372036854775807 : Int64)) - r0))), (.long (if ((x1 &&& (9223372036854775807 : Int64)) - (r1 + r2)) < (if ((x1 &&& (9223372036854775807 : Int64)) - ((0 : Int64) + r0)) < (x1 &&& (9223372036854775807 : Int64)) then ((x1 &&& (9223372036854775807 : Int64)) - ((0 : Int64) + r0)) else (x1 &&& (9223372036854775807 : Int64))) then ((x1 &&& (9223372036854775807 : Int64)) - (r1 + r2)) else (if ((x1 &&& (9223372036854775807 : Int64)) - ((0 : Int64) + r0)) < (x1 &&& (9223372036854775807 : Int64)) then ((x1 &&& (9223372036854775807 : Int64)) - ((0 : Int64) + r0)) else (x1 &&& (9223372036854775807 : Int64)))))])) _
    refine XS.lcmp X21.here hx rfl (hb hby at_172) rfl ?_
    show Steps p.tables e below (T21.setTop (mkF m 173 #[.val (.long x1), .second, .val (.long x2), .second, .val (.long x3), .second, .val (.long x4), .second, .val (.long x5), .second, .val (.long (x1 &&& (9223372036854775807 : Int64))), .second, .val (.ref b1), .val (.long r0), .second, .val (.int (1 : Int32)), .val (.long r1), .second, .val (.int (1 : Int32)), .val (.long r2), .second, .val (.int (1 : Int32)), .val (.long r3), .second, .val (.long (if (((x1 &&& (9223372036854775807 : Int64)) - r1) - r2) < ((x1 &&& (9223372036854775807 : Int64)) - r0) then (((x1 &&& (9223372036854775807 : Int64)) - r1) - r2) else ((x1 &&& (9223372036854775807 : Int64)) - r0))), .second, .unset] [(.int (lcmpW (if ((x1 &&& (9223372036854775807 : Int64)) - (r1 + r2)) < (if ((x1 &&& (9223372036854775807 : Int64)) - ((0 : Int64) + r0)) < (x1 &&& (9223372036854775807 : Int64)) then ((x1 &&& (9223372036854775807 : Int64)) - ((0 : Int64) + r0)) else (x1 &&& (9223372036854775807 : Int64))) then ((x1 &&& (9223372036854775807 : Int64)) - (r1 + r2)) else (if ((x1 &&& (9223372036854775807 : Int64)) - ((0 : Int64) + r0)) < (x1 &&& (9223372036854775807 : Int64)) then ((x1 &&& (9223372036854775807 : Int64)) - ((0 : Int64) + r0)) else (x1 &&& (9223372036854775807 : Int64)))) (if (((x1 &&& (9223372036854775807 : Int64)) - r1) - r2) < ((x1 &&& (9223372036854775807 : Int64)) - r0) then (((x1 &&& (9223372036854775807 : Int64)) - r1) - r2) else ((x1 &&& (9223372036854775807 : Int64)) - r0))))])) _
    refine XS.ifNo X21.here hx rfl (hb hby at_173) rfl ((if0 _ _).trans (teq ((lw_eq _ _).mpr (own_I hu0 hu1 hu2 : (if ((x1 &&& (9223372036854775807 : Int64)) - (r1 + r2)) < (if ((x1 &&& (9223372036854775807 : Int64)) - ((0 : Int64) + r0)) < (x1 &&& (9223372036854775807 : Int64)) then ((x1 &&& (9223372036854775807 : Int64)) - ((0 : Int64) + r0)) else (x1 &&& (9223372036854775807 : Int64))) then ((x1 &&& (9223372036854775807 : Int64)) - (r1 + r2)) else (if ((x1 &&& (9223372036854775807 : Int64)) - ((0 : Int64) + r0)) < (x1 &&& (9223372036854775807 : Int64)) then ((x1 &&& (9223372036854775807 : Int64)) - ((0 : Int64) + r0)) else (x1 &&& (9223372036854775807 : Int64)))) = (if (((x1 &&& (9223372036854775807 : Int64)) - r1) - r2) < ((x1 &&& (9223372036854775807 : Int64)) - r0) then (((x1 &&& (9223372036854775807 : Int64)) - r1) - r2) else ((x1 &&& (9223372036854775807 : Int64)) - r0))))).2) ?_
    show Steps p.tables e below (T21.setTop (mkF m 176 #[.val (.long x1), .second, .val (.long x2), .second, .val (.long x3), .second, .val (.long x4), .second, .val (.long x5), .second, .val (.long (x1 &&& (9223372036854775807 : Int64))), .second, .val (.ref b1), .val (.long r0), .second, .val (.int (1 : Int32)), .val (.long r1), .second, .val (.int (1 : Int32)), .val (.long r2), .second, .val (.int (1 : Int32)), .val (.long r3), .second, .val (.long (if (((x1 &&& (9223372036854775807 : Int64)) - r1) - r2) < ((x1 &&& (9223372036854775807 : Int64)) - r0) then (((x1 &&& (9223372036854775807 : Int64)) - r1) - r2) else ((x1 &&& (9223372036854775807 : Int64)) - r0))), .second, .unset] [])) _
    refine XS.aload X21.here hx rfl (hb hby at_176) rfl rfl ?_
    show Steps p.tables e below (T21.setTop (mkF m 178 #[.val (.long x1), .second, .val (.long x2), .second, .val (.long x3), .second, .val (.long x4), .second, .val (.long x5), .second, .val (.long (x1 &&& (9223372036854775807 : Int64))), .second, .val (.ref b1), .val (.long r0), .second, .val (.int (1 : Int32)), .val (.long r1), .second, .val (.int (1 : Int32)), .val (.long r2), .second, .val (.int (1 : Int32)), .val (.long r3), .second, .val (.long (if (((x1 &&& (9223372036854775807 : Int64)) - r1) - r2) < ((x1 &&& (9223372036854775807 : Int64)) - r0) then (((x1 &&& (9223372036854775807 : Int64)) - r1) - r2) else ((x1 &&& (9223372036854775807 : Int64)) - r0))), .second, .unset] [(.ref b1)])) _
    refine st22.trans ?_
    show Steps p.tables e below (T22.setTop (mkF m 181 #[.val (.long x1), .second, .val (.long x2), .second, .val (.long x3), .second, .val (.long x4), .second, .val (.long x5), .second, .val (.long (x1 &&& (9223372036854775807 : Int64))), .second, .val (.ref b1), .val (.long r0), .second, .val (.int (1 : Int32)), .val (.long r1), .second, .val (.int (1 : Int32)), .val (.long r2), .second, .val (.int (1 : Int32)), .val (.long r3), .second, .val (.long (if (((x1 &&& (9223372036854775807 : Int64)) - r1) - r2) < ((x1 &&& (9223372036854775807 : Int64)) - r0) then (((x1 &&& (9223372036854775807 : Int64)) - r1) - r2) else ((x1 &&& (9223372036854775807 : Int64)) - r0))), .second, .unset] [(.long (if (if (0 : Int64) < r1 then r1 else (0 : Int64)) < r3 then r3 else (if (0 : Int64) < r1 then r1 else (0 : Int64))))])) _
    refine XS.lload X22.here hx rfl (hb hby at_181) rfl ?_
    show Steps p.tables e below (T22.setTop (mkF m 183 #[.val (.long x1), .second, .val (.long x2), .second, .val (.long x3), .second, .val (.long x4), .second, .val (.long x5), .second, .val (.long (x1 &&& (9223372036854775807 : Int64))), .second, .val (.ref b1), .val (.long r0), .second, .val (.int (1 : Int32)), .val (.long r1), .second, .val (.int (1 : Int32)), .val (.long r2), .second, .val (.int (1 : Int32)), .val (.long r3), .second, .val (.long (if (((x1 &&& (9223372036854775807 : Int64)) - r1) - r2) < ((x1 &&& (9223372036854775807 : Int64)) - r0) then (((x1 &&& (9223372036854775807 : Int64)) - r1) - r2) else ((x1 &&& (9223372036854775807 : Int64)) - r0))), .second, .unset] [(.long r1), (.long (if (if (0 : Int64) < r1 then r1 else (0 : Int64)) < r3 then r3 else (if (0 : Int64) < r1 then r1 else (0 : Int64))))])) _
    refine XS.lload X22.here hx rfl (hb hby at_183) rfl ?_
    show Steps p.tables e below (T22.setTop (mkF m 185 #[.val (.long x1), .second, .val (.long x2), .second, .val (.long x3), .second, .val (.long x4), .second, .val (.long x5), .second, .val (.long (x1 &&& (9223372036854775807 : Int64))), .second, .val (.ref b1), .val (.long r0), .second, .val (.int (1 : Int32)), .val (.long r1), .second, .val (.int (1 : Int32)), .val (.long r2), .second, .val (.int (1 : Int32)), .val (.long r3), .second, .val (.long (if (((x1 &&& (9223372036854775807 : Int64)) - r1) - r2) < ((x1 &&& (9223372036854775807 : Int64)) - r0) then (((x1 &&& (9223372036854775807 : Int64)) - r1) - r2) else ((x1 &&& (9223372036854775807 : Int64)) - r0))), .second, .unset] [(.long r3), (.long r1), (.long (if (if (0 : Int64) < r1 then r1 else (0 : Int64)) < r3 then r3 else (if (0 : Int64) < r1 then r1 else (0 : Int64))))])) _
    refine st23 _ ?_
    show Steps p.tables e below (T23.setTop (mkF m 188 #[.val (.long x1), .second, .val (.long x2), .second, .val (.long x3), .second, .val (.long x4), .second, .val (.long x5), .second, .val (.long (x1 &&& (9223372036854775807 : Int64))), .second, .val (.ref b1), .val (.long r0), .second, .val (.int (1 : Int32)), .val (.long r1), .second, .val (.int (1 : Int32)), .val (.long r2), .second, .val (.int (1 : Int32)), .val (.long r3), .second, .val (.long (if (((x1 &&& (9223372036854775807 : Int64)) - r1) - r2) < ((x1 &&& (9223372036854775807 : Int64)) - r0) then (((x1 &&& (9223372036854775807 : Int64)) - r1) - r2) else ((x1 &&& (9223372036854775807 : Int64)) - r0))), .second, .unset] [(.long (if r1 < r3 then r3 else r1)), (.long (if (if (0 : Int64) < r1 then r1 else (0 : Int64)) < r3 then r3 else (if (0 : Int64) < r1 then r1 else (0 : Int64))))])) _
    refine XS.lcmp X23.here hx rfl (hb hby at_188) rfl ?_
    show Steps p.tables e below (T23.setTop (mkF m 189 #[.val (.long x1), .second, .val (.long x2), .second, .val (.long x3), .second, .val (.long x4), .second, .val (.long x5), .second, .val (.long (x1 &&& (9223372036854775807 : Int64))), .second, .val (.ref b1), .val (.long r0), .second, .val (.int (1 : Int32)), .val (.long r1), .second, .val (.int (1 : Int32)), .val (.long r2), .second, .val (.int (1 : Int32)), .val (.long r3), .second, .val (.long (if (((x1 &&& (9223372036854775807 : Int64)) - r1) - r2) < ((x1 &&& (9223372036854775807 : Int64)) - r0) then (((x1 &&& (9223372036854775807 : Int64)) - r1) - r2) else ((x1 &&& (9223372036854775807 : Int64)) - r0))), .second, .unset] [(.int (lcmpW (if (if (0 : Int64) < r1 then r1 else (0 : Int64)) < r3 then r3 else (if (0 : Int64) < r1 then r1 else (0 : Int64))) (if r1 < r3 then r3 else r1)))])) _
    refine XS.ifNo X23.here hx rfl (hb hby at_189) rfl ((if0 _ _).trans (teq ((lw_eq _ _).mpr (own_J hu1.1 : (if (if (0 : Int64) < r1 then r1 else (0 : Int64)) < r3 then r3 else (if (0 : Int64) < r1 then r1 else (0 : Int64))) = (if r1 < r3 then r3 else r1)))).2) ?_
    show Steps p.tables e below (T23.setTop (mkF m 192 #[.val (.long x1), .second, .val (.long x2), .second, .val (.long x3), .second, .val (.long x4), .second, .val (.long x5), .second, .val (.long (x1 &&& (9223372036854775807 : Int64))), .second, .val (.ref b1), .val (.long r0), .second, .val (.int (1 : Int32)), .val (.long r1), .second, .val (.int (1 : Int32)), .val (.long r2), .second, .val (.int (1 : Int32)), .val (.long r3), .second, .val (.long (if (((x1 &&& (9223372036854775807 : Int64)) - r1) - r2) < ((x1 &&& (9223372036854775807 : Int64)) - r0) then (((x1 &&& (9223372036854775807 : Int64)) - r1) - r2) else ((x1 &&& (9223372036854775807 : Int64)) - r0))), .second, .unset] [])) _
    refine XS.iconst X23.here hx rfl (hb hby at_192) ?_
    show Steps p.tables e below (T23.setTop (mkF m 193 #[.val (.long x1), .second, .val (.long x2), .second, .val (.long x3), .second, .val (.long x4), .second, .val (.long x5), .second, .val (.long (x1 &&& (9223372036854775807 : Int64))), .second, .val (.ref b1), .val (.long r0), .second, .val (.int (1 : Int32)), .val (.long r1), .second, .val (.int (1 : Int32)), .val (.long r2), .second, .val (.int (1 : Int32)), .val (.long r3), .second, .val (.long (if (((x1 &&& (9223372036854775807 : Int64)) - r1) - r2) < ((x1 &&& (9223372036854775807 : Int64)) - r0) then (((x1 &&& (9223372036854775807 : Int64)) - r1) - r2) else ((x1 &&& (9223372036854775807 : Int64)) - r0))), .second, .unset] [(.int (1 : Int32))])) _
    refine XS.goto X23.here hx rfl (pc0 := 193) (pc' := 197) rfl (hb hby at_193) (by decide) (by decide) ?_
    show Steps p.tables e below (T23.setTop (mkF m 197 #[.val (.long x1), .second, .val (.long x2), .second, .val (.long x3), .second, .val (.long x4), .second, .val (.long x5), .second, .val (.long (x1 &&& (9223372036854775807 : Int64))), .second, .val (.ref b1), .val (.long r0), .second, .val (.int (1 : Int32)), .val (.long r1), .second, .val (.int (1 : Int32)), .val (.long r2), .second, .val (.int (1 : Int32)), .val (.long r3), .second, .val (.long (if (((x1 &&& (9223372036854775807 : Int64)) - r1) - r2) < ((x1 &&& (9223372036854775807 : Int64)) - r0) then (((x1 &&& (9223372036854775807 : Int64)) - r1) - r2) else ((x1 &&& (9223372036854775807 : Int64)) - r0))), .second, .unset] [(.int (1 : Int32))])) _
    refine XS.istore X23.here hx rfl (hb hby at_197) rfl (l' := #[.val (.long x1), .second, .val (.long x2), .second, .val (.long x3), .second, .val (.long x4), .second, .val (.long x5), .second, .val (.long (x1 &&& (9223372036854775807 : Int64))), .second, .val (.ref b1), .val (.long r0), .second, .val (.int (1 : Int32)), .val (.long r1), .second, .val (.int (1 : Int32)), .val (.long r2), .second, .val (.int (1 : Int32)), .val (.long r3), .second, .val (.long (if (((x1 &&& (9223372036854775807 : Int64)) - r1) - r2) < ((x1 &&& (9223372036854775807 : Int64)) - r0) then (((x1 &&& (9223372036854775807 : Int64)) - r1) - r2) else ((x1 &&& (9223372036854775807 : Int64)) - r0))), .second, .val (.int (1 : Int32))]) rfl ?_
    show Steps p.tables e below (T23.setTop (mkF m 199 #[.val (.long x1), .second, .val (.long x2), .second, .val (.long x3), .second, .val (.long x4), .second, .val (.long x5), .second, .val (.long (x1 &&& (9223372036854775807 : Int64))), .second, .val (.ref b1), .val (.long r0), .second, .val (.int (1 : Int32)), .val (.long r1), .second, .val (.int (1 : Int32)), .val (.long r2), .second, .val (.int (1 : Int32)), .val (.long r3), .second, .val (.long (if (((x1 &&& (9223372036854775807 : Int64)) - r1) - r2) < ((x1 &&& (9223372036854775807 : Int64)) - r0) then (((x1 &&& (9223372036854775807 : Int64)) - r1) - r2) else ((x1 &&& (9223372036854775807 : Int64)) - r0))), .second, .val (.int (1 : Int32))] [])) _
    refine XS.iload X23.here hx rfl (hb hby at_199) rfl ?_
    show Steps p.tables e below (T23.setTop (mkF m 201 #[.val (.long x1), .second, .val (.long x2), .second, .val (.long x3), .second, .val (.long x4), .second, .val (.long x5), .second, .val (.long (x1 &&& (9223372036854775807 : Int64))), .second, .val (.ref b1), .val (.long r0), .second, .val (.int (1 : Int32)), .val (.long r1), .second, .val (.int (1 : Int32)), .val (.long r2), .second, .val (.int (1 : Int32)), .val (.long r3), .second, .val (.long (if (((x1 &&& (9223372036854775807 : Int64)) - r1) - r2) < ((x1 &&& (9223372036854775807 : Int64)) - r0) then (((x1 &&& (9223372036854775807 : Int64)) - r1) - r2) else ((x1 &&& (9223372036854775807 : Int64)) - r0))), .second, .val (.int (1 : Int32))] [(.int (1 : Int32))])) _
    refine XS.ifNo X23.here hx rfl (hb hby at_201) rfl ((if0 _ _).trans (feq (by decide : ¬ ((1 : Int32) = (0 : Int32)))).1) ?_
    show Steps p.tables e below (T23.setTop (mkF m 204 #[.val (.long x1), .second, .val (.long x2), .second, .val (.long x3), .second, .val (.long x4), .second, .val (.long x5), .second, .val (.long (x1 &&& (9223372036854775807 : Int64))), .second, .val (.ref b1), .val (.long r0), .second, .val (.int (1 : Int32)), .val (.long r1), .second, .val (.int (1 : Int32)), .val (.long r2), .second, .val (.int (1 : Int32)), .val (.long r3), .second, .val (.long (if (((x1 &&& (9223372036854775807 : Int64)) - r1) - r2) < ((x1 &&& (9223372036854775807 : Int64)) - r0) then (((x1 &&& (9223372036854775807 : Int64)) - r1) - r2) else ((x1 &&& (9223372036854775807 : Int64)) - r0))), .second, .val (.int (1 : Int32))] [])) _
    refine XS.iload X23.here hx rfl (hb hby at_204) rfl ?_
    show Steps p.tables e below (T23.setTop (mkF m 206 #[.val (.long x1), .second, .val (.long x2), .second, .val (.long x3), .second, .val (.long x4), .second, .val (.long x5), .second, .val (.long (x1 &&& (9223372036854775807 : Int64))), .second, .val (.ref b1), .val (.long r0), .second, .val (.int (1 : Int32)), .val (.long r1), .second, .val (.int (1 : Int32)), .val (.long r2), .second, .val (.int (1 : Int32)), .val (.long r3), .second, .val (.long (if (((x1 &&& (9223372036854775807 : Int64)) - r1) - r2) < ((x1 &&& (9223372036854775807 : Int64)) - r0) then (((x1 &&& (9223372036854775807 : Int64)) - r1) - r2) else ((x1 &&& (9223372036854775807 : Int64)) - r0))), .second, .val (.int (1 : Int32))] [(.int (1 : Int32))])) _
    refine XS.ifNo X23.here hx rfl (hb hby at_206) rfl ((if0 _ _).trans (feq (by decide : ¬ ((1 : Int32) = (0 : Int32)))).1) ?_
    show Steps p.tables e below (T23.setTop (mkF m 209 #[.val (.long x1), .second, .val (.long x2), .second, .val (.long x3), .second, .val (.long x4), .second, .val (.long x5), .second, .val (.long (x1 &&& (9223372036854775807 : Int64))), .second, .val (.ref b1), .val (.long r0), .second, .val (.int (1 : Int32)), .val (.long r1), .second, .val (.int (1 : Int32)), .val (.long r2), .second, .val (.int (1 : Int32)), .val (.long r3), .second, .val (.long (if (((x1 &&& (9223372036854775807 : Int64)) - r1) - r2) < ((x1 &&& (9223372036854775807 : Int64)) - r0) then (((x1 &&& (9223372036854775807 : Int64)) - r1) - r2) else ((x1 &&& (9223372036854775807 : Int64)) - r0))), .second, .val (.int (1 : Int32))] [])) _
    refine XS.iconst X23.here hx rfl (hb hby at_209) ?_
    show Steps p.tables e below (T23.setTop (mkF m 210 #[.val (.long x1), .second, .val (.long x2), .second, .val (.long x3), .second, .val (.long x4), .second, .val (.long x5), .second, .val (.long (x1 &&& (9223372036854775807 : Int64))), .second, .val (.ref b1), .val (.long r0), .second, .val (.int (1 : Int32)), .val (.long r1), .second, .val (.int (1 : Int32)), .val (.long r2), .second, .val (.int (1 : Int32)), .val (.long r3), .second, .val (.long (if (((x1 &&& (9223372036854775807 : Int64)) - r1) - r2) < ((x1 &&& (9223372036854775807 : Int64)) - r0) then (((x1 &&& (9223372036854775807 : Int64)) - r1) - r2) else ((x1 &&& (9223372036854775807 : Int64)) - r0))), .second, .val (.int (1 : Int32))] [(.int (1 : Int32))])) _
    refine XS.goto X23.here hx rfl (pc0 := 210) (pc' := 214) rfl (hb hby at_210) (by decide) (by decide) ?_
    show Steps p.tables e below (T23.setTop (mkF m 214 #[.val (.long x1), .second, .val (.long x2), .second, .val (.long x3), .second, .val (.long x4), .second, .val (.long x5), .second, .val (.long (x1 &&& (9223372036854775807 : Int64))), .second, .val (.ref b1), .val (.long r0), .second, .val (.int (1 : Int32)), .val (.long r1), .second, .val (.int (1 : Int32)), .val (.long r2), .second, .val (.int (1 : Int32)), .val (.long r3), .second, .val (.long (if (((x1 &&& (9223372036854775807 : Int64)) - r1) - r2) < ((x1 &&& (9223372036854775807 : Int64)) - r0) then (((x1 &&& (9223372036854775807 : Int64)) - r1) - r2) else ((x1 &&& (9223372036854775807 : Int64)) - r0))), .second, .val (.int (1 : Int32))] [(.int (1 : Int32))])) _
    exact retN X23 hx (t := .boolean) Bd.returns (by simp) (hb hby at_214) hr
  · show own_Q_own_law Z x1 x2 x3 x4 x5 h0 n0 _ T23.heap _
    rw [e23]
    exact ⟨rfl, N23⟩
set_option maxRecDepth 65536 in
set_option maxHeartbeats 40000000 in
theorem own_comes_1 {Post : Tables → Env → Array Value → State → Outcome → State → Prop} (hpost : ∀ tb e args s v u, (limb_1_1.after args s (.returned v) u = true ∧ limb_1_2.after args s (.returned v) u = true ∧ True) → FrameEnd s (.returned v) u (Jvm.fieldLocs frame_1_writes args s ++ Jvm.arrayLocs frame_1_arrays args s ++ Jvm.staticLocs frame_1_statics s) 16 128 → Post tb e args s (.returned v) u) :
    ArmFor flags0 classFile x code maxLocals ret World_1 tables_1 room_1 Calls_1 rest_1 Pre_1 Post := by
  intro l hfl _ _ p e ha hc hk s m args below hf hA hF happ hP
  obtain ⟨hcalls, hrest, hpre⟩ := hP
  obtain ⟨-, -, -, hnamed, -, -, -, hat⟩ := (Spec.applies_iff hf).mp happ
  obtain ⟨hg, hn⟩ := and_e (Cond.before_iff.mp (show (Jvm.Cond.and given_1 narrow_1).before args s = true from hpre))
  obtain ⟨g1, g2⟩ := and_e hg
  obtain ⟨g3, g4⟩ := and_e g2
  obtain ⟨g5, g6⟩ := and_e g4
  obtain ⟨g7, g8⟩ := and_e g6
  obtain ⟨g9, g10⟩ := and_e g8
  obtain ⟨w0, w1, w2, w3, w4, rfl⟩ : ∃ w0 w1 w2 w3 w4 : Value, args = #[w0, w1, w2, w3, w4] := by
    have hs : args.size = 5 := by simpa [Cond.value, given_1] using g1
    obtain ⟨L⟩ := args
    match L, hs with
    | [w0, w1, w2, w3, w4], _ => exact ⟨w0, w1, w2, w3, w4, rfl⟩
  have hw := fun d (hd : d ∈ tables_1) => atoms_spec (ws := Jvm.Cond.code x code maxLocals ret :: tables_1) hat d (List.mem_cons_of_mem _ hd)
  have hfit : Fit s := fun {y c} hc i hi => by
    obtain ⟨ha, rfl⟩ := Array.getElem?_eq_some_iff.mp hc
    have q := List.all_eq_true.mp ((Array.all_eq_true_iff_forall_mem.mp hF) _ (Array.getElem_mem ha)) i (List.mem_range.mpr hi)
    simpa [Array.getElem?_eq_getElem hi] using q
  obtain ⟨i0, ei0⟩ := isL_v g3
  obtain rfl : w0 = (.long i0) := Option.some.inj ei0
  obtain ⟨i1, ei1⟩ := isL_v g5
  obtain rfl : w1 = (.long i1) := Option.some.inj ei1
  obtain ⟨i2, ei2⟩ := isL_v g7
  obtain rfl : w2 = (.long i2) := Option.some.inj ei2
  obtain ⟨i3, ei3⟩ := isL_v g9
  obtain rfl : w3 = (.long i3) := Option.some.inj ei3
  obtain ⟨i4, ei4⟩ := isL_v g10
  obtain rfl : w4 = (.long i4) := Option.some.inj ei4
  obtain ⟨n, o, h1, h2, h3, _, L, rfl, ⟨rfl, N⟩, hq⟩ := own_law l s _ hw tables_1 i0 i1 i2 i3 i4  s.heap s.heap.size (Nat.le_refl _)  p e ha hc hk s m _ below hf ((Spec.applies_iff_loose hf).mp happ).1 ⟨rfl, State.Warmed39.refl s, rfl⟩ trivial
  refine ⟨n, _, h1, h2, h3, hpost _ _ _ _ _ _ ⟨Cond.after_iff.mpr rfl, Cond.after_iff.mpr (eq_i res_at (Term.int_eval (1)) rfl), trivial⟩ ⟨hq.1, hq.2.1, (hq.2.2.sift fun y hy => Or.inr (N y hy)).mono (by decide) (by decide)⟩⟩
theorem main_1_1 : Claimed_1_1 := own_comes_1 fun _ _ _ _ _ _ h hF => ⟨h.1, hF⟩
theorem main_1_2 : Claimed_1_2 := own_comes_1 fun _ _ _ _ _ _ h hF => ⟨h.2.1, hF⟩
end Jvm.Pilot.@@N@@
namespace Jvm.Pilot.@@N@@
open Jvm Jvm.ClassFile Sem Op Lib Jvm.Free Jvm.Stand Jvm.Pilot.@@N@@.Jvm.D
/-! MADE BY PROGRAM (witnessworld.py) out of the Statement's table words and the real class files: 10 classes; the members and pool entries that the words name. The judged class is class 1, her method 2. -/
namespace start1
open Jvm.ClassFile
def u (s : String) : CpInfo := .utf8 (stringToUtf16 s)
/-- a pool by its gaps: so many unusable entries, then the entry; so many at the end -/
def gap : Nat → List CpInfo → List CpInfo
  | 0, r => r
  | n + 1, r => .unusable :: gap n r
def poolList (es : List (Nat × CpInfo)) (last : Nat) : List CpInfo := es.foldr (fun e r => gap e.1 (e.2 :: r)) (gap last [])
def pool (es : List (Nat × CpInfo)) (last : Nat) : Array CpInfo := ⟨poolList es last⟩
def fileOf (pool : Array CpInfo) (this : Nat) (attrs : Array Attribute := #[]) (ms : Array MethodInfo := #[]) (fl : Nat := 33) (sup : Nat := 0) (ifs : Array Nat := #[]) (fds : Array FieldInfo := #[]) : ClassFile where
  minorVersion := 0
  majorVersion := 65
  constantPool := pool
  accessFlags := fl
  thisClass := this
  superClass := sup
  interfaces := ifs
  fields := fds
  methods := ms
  attributes := attrs
def plain (name : String) (sup : Option ClassId) : Class where
  name := name
  kind := .ordinary
  loader := none
  accessFlags := 33
  super := sup
  interfaces := #[]
  cf := none
  fields := #[]
  methods := #[]
  instanceTypes := #[]
  staticTypes := #[]
  resolved := #[]
  callSites := []
  init := .initialized
  statics := none
  mirror := none

def pool0 : Array CpInfo := pool [(5, u "<init>"), (0, u "()V"), (1, .class_ 10), (1, u "java/lang/Object")] 113

def k0c0 : Code := { maxStack := 0, maxLocals := 1, code := object_method_1_code, exceptionTable := #[], attributes := #[] }
def k0m0 : Method := { name := "<init>", desc := "()V", sig := { parameters := [], returnType := none }, accessFlags := 1, code := some k0c0 }
/-- java/lang/Object -/
def k0 : Class := { plain "java/lang/Object" none with
  accessFlags := 33
  interfaces := #[]
  cf := some (fileOf pool0 8 #[] #[{ accessFlags := 1, nameIndex := 5, descriptorIndex := 6, attributes := #[] }] 33 0 #[] #[])
  fields := #[]
  methods := #[k0m0]
  instanceTypes := #[]
  staticTypes := #[]
  resolved := Array.replicate 124 none
  statics := none }

def pool1 : Array CpInfo := pool [(2, .class_ 4), (1, u "java/lang/Object"), (0, u "<init>"), (0, u "()V"), (2, .long 9223372036854775807), (1, .class_ 12), (0, u "com/example/idunn/idunn/simulation/Semispaces"), (0, .methodref 11 14), (0, .nameAndType 5 15), (0, u "(J)V"), (0, .methodref 17 18), (0, .class_ 19), (0, .nameAndType 20 21), (0, u "com/example/idunn/idunn/simulation/SemispacesFlipPinLaw"), (0, u "upTo"), (0, u "(JJ)J"), (0, .methodref 11 23), (0, .nameAndType 24 25), (0, u "allocate"), (0, u "(J)Z"), (0, .methodref 11 27), (0, .nameAndType 28 15), (0, u "flip"), (0, .methodref 11 30), (0, .nameAndType 31 32), (0, u "free"), (0, u "()J"), (0, .methodref 11 34), (0, .nameAndType 35 32), (0, u "mostCopied"), (0, .methodref 37 38), (0, .class_ 39), (0, .nameAndType 40 21), (0, u "java/lang/Math"), (0, u "min"), (0, .methodref 11 42), (0, .nameAndType 43 32), (0, u "minFree"), (0, .methodref 37 45), (0, .nameAndType 46 21), (0, u "max"), (3, u "law"), (0, u "(JJJJJ)Z")] 2

def k1m0 : Method := { name := "<init>", desc := "()V", sig := { parameters := [], returnType := none }, accessFlags := 1, code := none }
def k1c1 : Code := { maxStack := 6, maxLocals := 6, code := method_2_code, exceptionTable := #[], attributes := #[] }
def k1m1 : Method := { name := "upTo", desc := "(JJ)J", sig := { parameters := [.long, .long], returnType := some .long }, accessFlags := 10, code := some k1c1 }
def k1c2 : Code := { maxStack := 6, maxLocals := 27, code := code, exceptionTable := #[], attributes := #[] }
def k1m2 : Method := { name := "law", desc := "(JJJJJ)Z", sig := { parameters := [.long, .long, .long, .long, .long], returnType := some .boolean }, accessFlags := 9, code := some k1c2 }
/-- com/example/idunn/idunn/simulation/SemispacesFlipPinLaw -/
def k1 : Class := { plain "com/example/idunn/idunn/simulation/SemispacesFlipPinLaw" (some 0) with
  accessFlags := 49
  interfaces := #[]
  cf := some (fileOf pool1 17 #[] #[{ accessFlags := 1, nameIndex := 5, descriptorIndex := 6, attributes := #[] }, { accessFlags := 10, nameIndex := 20, descriptorIndex := 21, attributes := #[] }, { accessFlags := 9, nameIndex := 50, descriptorIndex := 51, attributes := #[] }] 49 2 #[] #[])
  fields := #[]
  methods := #[k1m0, k1m1, k1m2]
  instanceTypes := #[]
  staticTypes := #[]
  resolved := Array.replicate 54 none
  statics := none }

def pool2 : Array CpInfo := pool [(1, .methodref 2 3), (0, .class_ 4), (0, .nameAndType 5 6), (0, u "java/lang/Object"), (0, u "<init>"), (0, u "()V"), (0, .fieldref 8 9), (0, .class_ 10), (0, .nameAndType 11 12), (0, u "com/example/idunn/idunn/simulation/Semispaces"), (0, u "capacity"), (0, u "J"), (0, .fieldref 8 14), (0, .nameAndType 15 12), (0, u "minFree"), (0, .fieldref 8 17), (0, .nameAndType 18 12), (0, u "used"), (0, .methodref 8 20), (0, .nameAndType 21 22), (0, u "free"), (0, u "()J"), (0, .methodref 24 25), (0, .class_ 26), (0, .nameAndType 27 28), (0, u "java/lang/Math"), (0, u "min"), (0, u "(JJ)J"), (0, .fieldref 8 30), (0, .nameAndType 31 12), (0, u "mostCopied"), (0, .methodref 24 33), (0, .nameAndType 34 28), (0, u "max"), (0, u "(J)V"), (2, u "allocate"), (0, u "(J)Z"), (1, u "flip")] 2

def k2c0 : Code := { maxStack := 3, maxLocals := 3, code := prog_9_method_1_code, exceptionTable := #[], attributes := #[] }
def k2m0 : Method := { name := "<init>", desc := "(J)V", sig := { parameters := [.long], returnType := none }, accessFlags := 0, code := some k2c0 }
def k2c1 : Code := { maxStack := 4, maxLocals := 1, code := prog_9_method_2_code, exceptionTable := #[], attributes := #[] }
def k2m1 : Method := { name := "free", desc := "()J", sig := { parameters := [], returnType := some .long }, accessFlags := 0, code := some k2c1 }
def k2c2 : Code := { maxStack := 5, maxLocals := 3, code := prog_9_method_3_code, exceptionTable := #[], attributes := #[] }
def k2m2 : Method := { name := "allocate", desc := "(J)Z", sig := { parameters := [.long], returnType := some .boolean }, accessFlags := 0, code := some k2c2 }
def k2c3 : Code := { maxStack := 5, maxLocals := 3, code := prog_9_method_4_code, exceptionTable := #[], attributes := #[] }
def k2m3 : Method := { name := "flip", desc := "(J)V", sig := { parameters := [.long], returnType := none }, accessFlags := 0, code := some k2c3 }
def k2c4 : Code := { maxStack := 2, maxLocals := 1, code := prog_9_method_5_code, exceptionTable := #[], attributes := #[] }
def k2m4 : Method := { name := "minFree", desc := "()J", sig := { parameters := [], returnType := some .long }, accessFlags := 0, code := some k2c4 }
def k2c5 : Code := { maxStack := 2, maxLocals := 1, code := prog_9_method_6_code, exceptionTable := #[], attributes := #[] }
def k2m5 : Method := { name := "mostCopied", desc := "()J", sig := { parameters := [], returnType := some .long }, accessFlags := 0, code := some k2c5 }
/-- com/example/idunn/idunn/simulation/Semispaces -/
def k2 : Class := { plain "com/example/idunn/idunn/simulation/Semispaces" (some 0) with
  accessFlags := 48
  interfaces := #[]
  cf := some (fileOf pool2 8 #[] #[{ accessFlags := 0, nameIndex := 5, descriptorIndex := 35, attributes := #[] }, { accessFlags := 0, nameIndex := 21, descriptorIndex := 22, attributes := #[] }, { accessFlags := 0, nameIndex := 38, descriptorIndex := 39, attributes := #[] }, { accessFlags := 0, nameIndex := 41, descriptorIndex := 35, attributes := #[] }, { accessFlags := 0, nameIndex := 15, descriptorIndex := 22, attributes := #[] }, { accessFlags := 0, nameIndex := 31, descriptorIndex := 22, attributes := #[] }] 48 2 #[] #[{ accessFlags := 18, nameIndex := 11, descriptorIndex := 12, attributes := #[] }, { accessFlags := 2, nameIndex := 18, descriptorIndex := 12, attributes := #[] }, { accessFlags := 2, nameIndex := 15, descriptorIndex := 12, attributes := #[] }, { accessFlags := 2, nameIndex := 31, descriptorIndex := 12, attributes := #[] }])
  fields := #[{ name := "capacity", type := .long, accessFlags := 18, slot := 0, constantValue := 0 }, { name := "used", type := .long, accessFlags := 2, slot := 1, constantValue := 0 }, { name := "minFree", type := .long, accessFlags := 2, slot := 2, constantValue := 0 }, { name := "mostCopied", type := .long, accessFlags := 2, slot := 3, constantValue := 0 }]
  methods := #[k2m0, k2m1, k2m2, k2m3, k2m4, k2m5]
  instanceTypes := #[.long, .long, .long, .long]
  staticTypes := #[]
  resolved := Array.replicate 44 none
  statics := none }

def pool3 : Array CpInfo := pool [(1, .class_ 2), (0, u "java/lang/Math"), (1, .class_ 6), (1, u "java/lang/Object"), (0, u "<init>"), (0, u "()V"), (89, .class_ 100), (1, u "java/lang/Math$RandomNumberGeneratorHolder"), (20, u "(JJ)J"), (50, u "negativeZeroFloatBits"), (0, u "J"), (2, u "negativeZeroDoubleBits"), (21, u "max"), (2, u "min"), (43, u "$assertionsDisabled"), (0, u "Z"), (91, u "twoToTheDoubleScaleDown"), (0, u "D"), (4, u "twoToTheDoubleScaleUp"), (9, u "E"), (3, u "PI"), (2, u "TAU"), (2, u "DEGREES_TO_RADIANS"), (0, u "RADIANS_TO_DEGREES")] 94

def k3m0 : Method := { name := "<init>", desc := "()V", sig := { parameters := [], returnType := none }, accessFlags := 2, code := none }
def k3c1 : Code := { maxStack := 4, maxLocals := 4, code := jdk_29_method_66_code, exceptionTable := #[], attributes := #[] }
def k3m1 : Method := { name := "max", desc := "(JJ)J", sig := { parameters := [.long, .long], returnType := some .long }, accessFlags := 9, code := some k3c1 }
def k3c2 : Code := { maxStack := 4, maxLocals := 4, code := jdk_29_method_70_code, exceptionTable := #[], attributes := #[] }
def k3m2 : Method := { name := "min", desc := "(JJ)J", sig := { parameters := [.long, .long], returnType := some .long }, accessFlags := 9, code := some k3c2 }
/-- java/lang/Math -/
def k3 : Class := { plain "java/lang/Math" (some 0) with
  accessFlags := 49
  interfaces := #[]
  cf := some (fileOf pool3 1 #[.nestMembers #[98]] #[{ accessFlags := 2, nameIndex := 7, descriptorIndex := 8, attributes := #[] }, { accessFlags := 9, nameIndex := 198, descriptorIndex := 121, attributes := #[] }, { accessFlags := 9, nameIndex := 201, descriptorIndex := 121, attributes := #[] }] 49 4 #[] #[{ accessFlags := 25, nameIndex := 354, descriptorIndex := 339, attributes := #[] }, { accessFlags := 25, nameIndex := 358, descriptorIndex := 339, attributes := #[] }, { accessFlags := 25, nameIndex := 361, descriptorIndex := 339, attributes := #[] }, { accessFlags := 26, nameIndex := 364, descriptorIndex := 339, attributes := #[] }, { accessFlags := 26, nameIndex := 365, descriptorIndex := 339, attributes := #[] }, { accessFlags := 26, nameIndex := 172, descriptorIndex := 173, attributes := #[] }, { accessFlags := 26, nameIndex := 176, descriptorIndex := 173, attributes := #[] }, { accessFlags := 8, nameIndex := 344, descriptorIndex := 339, attributes := #[] }, { accessFlags := 8, nameIndex := 338, descriptorIndex := 339, attributes := #[] }, { accessFlags := 4120, nameIndex := 245, descriptorIndex := 246, attributes := #[] }])
  fields := #[{ name := "E", type := .double, accessFlags := 25, slot := 0, constantValue := 0 }, { name := "PI", type := .double, accessFlags := 25, slot := 1, constantValue := 0 }, { name := "TAU", type := .double, accessFlags := 25, slot := 2, constantValue := 0 }, { name := "DEGREES_TO_RADIANS", type := .double, accessFlags := 26, slot := 3, constantValue := 0 }, { name := "RADIANS_TO_DEGREES", type := .double, accessFlags := 26, slot := 4, constantValue := 0 }, { name := "negativeZeroFloatBits", type := .long, accessFlags := 26, slot := 5, constantValue := 0 }, { name := "negativeZeroDoubleBits", type := .long, accessFlags := 26, slot := 6, constantValue := 0 }, { name := "twoToTheDoubleScaleUp", type := .double, accessFlags := 8, slot := 7, constantValue := 0 }, { name := "twoToTheDoubleScaleDown", type := .double, accessFlags := 8, slot := 8, constantValue := 0 }, { name := "$assertionsDisabled", type := .boolean, accessFlags := 4120, slot := 9, constantValue := 0 }]
  methods := #[k3m0, k3m1, k3m2]
  instanceTypes := #[]
  staticTypes := #[.double, .double, .double, .double, .double, .long, .long, .double, .double, .boolean]
  resolved := Array.replicate 460 none
  statics := none }

def pool4 : Array CpInfo := pool [(1, u "java/lang/Cloneable"), (0, .class_ 1), (0, u "java/lang/Object"), (0, .class_ 3)] 3

/-- java/lang/Cloneable -/
def k4 : Class := { plain "java/lang/Cloneable" (some 0) with
  accessFlags := 1537
  interfaces := #[]
  cf := some (fileOf pool4 2 #[] #[] 1537 4 #[] #[])
  fields := #[]
  methods := #[]
  instanceTypes := #[]
  staticTypes := #[]
  resolved := Array.replicate 8 none
  statics := none }

def pool5 : Array CpInfo := pool [(1, u "java/io/Serializable"), (0, .class_ 1), (0, u "java/lang/Object"), (0, .class_ 3)] 3

/-- java/io/Serializable -/
def k5 : Class := { plain "java/io/Serializable" (some 0) with
  accessFlags := 1537
  interfaces := #[]
  cf := some (fileOf pool5 2 #[] #[] 1537 4 #[] #[])
  fields := #[]
  methods := #[]
  instanceTypes := #[]
  staticTypes := #[]
  resolved := Array.replicate 8 none
  statics := none }

/-- the primitive byte -/
def k6 : Class := { plain "byte" none with kind := .primitive 'B', accessFlags := 0x411 }
/-- [B -/
def k7 : Class := { plain "[B" (some 0) with kind := .array 6 .byte, interfaces := #[4, 5], accessFlags := 1041 }

/-- the primitive int -/
def k8 : Class := { plain "int" none with kind := .primitive 'I', accessFlags := 0x411 }
/-- [I -/
def k9 : Class := { plain "[I" (some 0) with kind := .array 8 .int, interfaces := #[4, 5], accessFlags := 1041 }

def heap : Heap := #[]
def classes : Array Class := #[k0, k1, k2, k3, k4, k5, k6, k7, k8, k9]
def interned : List (Array UInt16 × Addr) := []
def slotsUsed : Nat := 0
def theMethod : MethodId := ⟨1, 2⟩
def args0 : Array Value := #[.long 77, .long 9, .long 3, .long 4, .long 5]
def aboutOver (below : List Frame) : State where
  vm := { classes := classes, interned := interned.toArray }
  heap := heap
  slotsUsed := slotsUsed
  threads := #[{ frames := .invoking theMethod args0 :: below }]
def below0 : List Frame := [.native { method := ⟨0, 0⟩, args := #[] }]
def about1 : State := aboutOver below0
def p0 : Program := .bare "" "" ""
def e0 : Env := launch0.env 0 0 0
theorem w_frames : about1.frames = Frame.invoking theMethod args0 :: below0 := rfl
set_option maxRecDepth 65536 in
theorem w_args : argsFit about1.vm theMethod args0 = true := by decide +kernel
set_option maxRecDepth 65536 in
theorem w_heap : heapFits about1 = true := by decide +kernel
set_option maxRecDepth 65536 in
theorem w_runnable : about1.curStatus? = some .runnable := by decide +kernel
set_option maxRecDepth 65536 in
theorem w_alone : about1.alone = true := by decide +kernel
set_option maxRecDepth 65536 in
theorem w_named : about1.methodNamed? x = some theMethod := by decide +kernel
set_option maxRecDepth 65536 in
theorem w_hears : about1.hears theMethod below0 = true := by decide +kernel
set_option maxRecDepth 65536 in
theorem w_ripe : about1.ripe theMethod args0 below0 = true := by decide +kernel
theorem w_running : about1.status = .running := rfl
set_option maxRecDepth 65536 in
theorem w_room : about1.hasRoom e0.platform room_1 = true :=
  launch0.hasRoom_least _ room_1 (by decide +kernel) (by decide +kernel) (by decide +kernel) (by decide +kernel) (by decide +kernel) (by decide +kernel)
theorem allAtoms_all (ts : List Jvm.Cond) (a : Array Jvm.Value) (st : Jvm.State) : (allAtoms ts).before a st = ts.all (fun c => c.before a st) := by
  induction ts with
  | nil => rfl
  | cons c t ih =>
    show (Jvm.Cond.and c (allAtoms t)).before a st = _
    rw [Jvm.Cond.before_and, ih, List.all_cons]
def words1 : List Jvm.Cond := Jvm.Cond.code x code maxLocals ret :: tables_1
/-- a 'code' word, met by the world's own term for the bytes: nothing is compared byte by byte -/
theorem code_word {y : MethodName} {bytes : ByteArray} {mx : Nat} {rt : Option FieldType} {a : Array Value} {s : State} {m : MethodId} {meth : Method} {c : Code} (h1 : s.methodNamed? y = some m) (h2 : s.vm.method? m = some meth) (h3 : meth.code = some c) (h4 : c.code = bytes)
    (h5 : (c.maxLocals == mx && c.exceptionTable.isEmpty && decide (c.maxStack ≤ mostOperands) && decide (meth.sig.returnType = rt) && !meth.locks && decide (parseMethodDescriptor y.desc = some meth.sig)) = true) : (Jvm.Cond.code y bytes mx rt).before a s = true := by
  simp only [Bool.and_eq_true, beq_iff_eq, Bool.not_eq_true', decide_eq_true_eq] at h5
  obtain ⟨⟨⟨⟨⟨g1, g2⟩, g3⟩, g4⟩, g5⟩, g6⟩ := h5
  simp [Cond.before, Cond.holds, Cond.value, h1, h2, h3, h4, g1, g2, g3, g4, g5, g6]
def isCode : Jvm.Cond → Bool
  | .code _ _ _ _ => true
  | _ => false
theorem all_split {L : List Jvm.Cond} {P : Jvm.Cond → Bool} (h1 : L.all (fun c => isCode c || P c) = true) (h2 : ∀ c ∈ L.filter isCode, P c = true) : L.all P = true := by
  refine List.all_eq_true.mpr fun c hc => ?_
  have h := List.all_eq_true.mp h1 c hc
  rcases Bool.eq_false_or_eq_true (isCode c) with hi | hi
  · exact h2 c (List.mem_filter.mpr ⟨hc, hi⟩)
  · simpa [hi] using h
set_option maxRecDepth 65536 in
theorem w_c0 : (Jvm.Cond.code x code maxLocals ret).before args0 about1 = true := code_word (m := ⟨1, 2⟩) (meth := k1m2) (c := k1c2) (by decide +kernel) rfl rfl rfl (by decide +kernel)
set_option maxRecDepth 65536 in
theorem w_c1 : (Jvm.Cond.code ({ cls := "com/example/idunn/idunn/simulation/Semispaces", name := "<init>", desc := "(J)V" } : Jvm.MethodName) prog_9_method_1_code (3 : Nat) (Option.none : Option Jvm.ClassFile.FieldType)).before args0 about1 = true := code_word (m := ⟨2, 0⟩) (meth := k2m0) (c := k2c0) (by decide +kernel) rfl rfl rfl (by decide +kernel)
set_option maxRecDepth 65536 in
theorem w_c2 : (Jvm.Cond.code ({ cls := "java/lang/Object", name := "<init>", desc := "()V" } : Jvm.MethodName) object_method_1_code (1 : Nat) (Option.none : Option Jvm.ClassFile.FieldType)).before args0 about1 = true := code_word (m := ⟨0, 0⟩) (meth := k0m0) (c := k0c0) (by decide +kernel) rfl rfl rfl (by decide +kernel)
set_option maxRecDepth 65536 in
theorem w_c3 : (Jvm.Cond.code ({ cls := "com/example/idunn/idunn/simulation/SemispacesFlipPinLaw", name := "upTo", desc := "(JJ)J" } : Jvm.MethodName) method_2_code (6 : Nat) (Option.some Jvm.ClassFile.FieldType.long)).before args0 about1 = true := code_word (m := ⟨1, 1⟩) (meth := k1m1) (c := k1c1) (by decide +kernel) rfl rfl rfl (by decide +kernel)
set_option maxRecDepth 65536 in
theorem w_c4 : (Jvm.Cond.code ({ cls := "com/example/idunn/idunn/simulation/Semispaces", name := "allocate", desc := "(J)Z" } : Jvm.MethodName) prog_9_method_3_code (3 : Nat) (Option.some Jvm.ClassFile.FieldType.boolean)).before args0 about1 = true := code_word (m := ⟨2, 2⟩) (meth := k2m2) (c := k2c2) (by decide +kernel) rfl rfl rfl (by decide +kernel)
set_option maxRecDepth 65536 in
theorem w_c5 : (Jvm.Cond.code ({ cls := "com/example/idunn/idunn/simulation/Semispaces", name := "free", desc := "()J" } : Jvm.MethodName) prog_9_method_2_code (1 : Nat) (Option.some Jvm.ClassFile.FieldType.long)).before args0 about1 = true := code_word (m := ⟨2, 1⟩) (meth := k2m1) (c := k2c1) (by decide +kernel) rfl rfl rfl (by decide +kernel)
set_option maxRecDepth 65536 in
theorem w_c6 : (Jvm.Cond.code ({ cls := "java/lang/Math", name := "min", desc := "(JJ)J" } : Jvm.MethodName) jdk_29_method_70_code (4 : Nat) (Option.some Jvm.ClassFile.FieldType.long)).before args0 about1 = true := code_word (m := ⟨3, 2⟩) (meth := k3m2) (c := k3c2) (by decide +kernel) rfl rfl rfl (by decide +kernel)
set_option maxRecDepth 65536 in
theorem w_c7 : (Jvm.Cond.code ({ cls := "com/example/idunn/idunn/simulation/Semispaces", name := "flip", desc := "(J)V" } : Jvm.MethodName) prog_9_method_4_code (3 : Nat) (Option.none : Option Jvm.ClassFile.FieldType)).before args0 about1 = true := code_word (m := ⟨2, 3⟩) (meth := k2m3) (c := k2c3) (by decide +kernel) rfl rfl rfl (by decide +kernel)
set_option maxRecDepth 65536 in
theorem w_c8 : (Jvm.Cond.code ({ cls := "java/lang/Math", name := "max", desc := "(JJ)J" } : Jvm.MethodName) jdk_29_method_66_code (4 : Nat) (Option.some Jvm.ClassFile.FieldType.long)).before args0 about1 = true := code_word (m := ⟨3, 1⟩) (meth := k3m1) (c := k3c1) (by decide +kernel) rfl rfl rfl (by decide +kernel)
set_option maxRecDepth 65536 in
theorem w_c9 : (Jvm.Cond.code ({ cls := "com/example/idunn/idunn/simulation/Semispaces", name := "mostCopied", desc := "()J" } : Jvm.MethodName) prog_9_method_6_code (1 : Nat) (Option.some Jvm.ClassFile.FieldType.long)).before args0 about1 = true := code_word (m := ⟨2, 5⟩) (meth := k2m5) (c := k2c5) (by decide +kernel) rfl rfl rfl (by decide +kernel)
set_option maxRecDepth 65536 in
theorem w_c10 : (Jvm.Cond.code ({ cls := "com/example/idunn/idunn/simulation/Semispaces", name := "minFree", desc := "()J" } : Jvm.MethodName) prog_9_method_5_code (1 : Nat) (Option.some Jvm.ClassFile.FieldType.long)).before args0 about1 = true := code_word (m := ⟨2, 4⟩) (meth := k2m4) (c := k2c4) (by decide +kernel) rfl rfl rfl (by decide +kernel)
def codes1 : List Jvm.Cond := [Jvm.Cond.code x code maxLocals ret, Jvm.Cond.code ({ cls := "com/example/idunn/idunn/simulation/Semispaces", name := "<init>", desc := "(J)V" } : Jvm.MethodName) prog_9_method_1_code (3 : Nat) (Option.none : Option Jvm.ClassFile.FieldType), Jvm.Cond.code ({ cls := "java/lang/Object", name := "<init>", desc := "()V" } : Jvm.MethodName) object_method_1_code (1 : Nat) (Option.none : Option Jvm.ClassFile.FieldType), Jvm.Cond.code ({ cls := "com/example/idunn/idunn/simulation/SemispacesFlipPinLaw", name := "upTo", desc := "(JJ)J" } : Jvm.MethodName) method_2_code (6 : Nat) (Option.some Jvm.ClassFile.FieldType.long), Jvm.Cond.code ({ cls := "com/example/idunn/idunn/simulation/Semispaces", name := "allocate", desc := "(J)Z" } : Jvm.MethodName) prog_9_method_3_code (3 : Nat) (Option.some Jvm.ClassFile.FieldType.boolean), Jvm.Cond.code ({ cls := "com/example/idunn/idunn/simulation/Semispaces", name := "free", desc := "()J" } : Jvm.MethodName) prog_9_method_2_code (1 : Nat) (Option.some Jvm.ClassFile.FieldType.long), Jvm.Cond.code ({ cls := "java/lang/Math", name := "min", desc := "(JJ)J" } : Jvm.MethodName) jdk_29_method_70_code (4 : Nat) (Option.some Jvm.ClassFile.FieldType.long), Jvm.Cond.code ({ cls := "com/example/idunn/idunn/simulation/Semispaces", name := "flip", desc := "(J)V" } : Jvm.MethodName) prog_9_method_4_code (3 : Nat) (Option.none : Option Jvm.ClassFile.FieldType), Jvm.Cond.code ({ cls := "java/lang/Math", name := "max", desc := "(JJ)J" } : Jvm.MethodName) jdk_29_method_66_code (4 : Nat) (Option.some Jvm.ClassFile.FieldType.long), Jvm.Cond.code ({ cls := "com/example/idunn/idunn/simulation/Semispaces", name := "mostCopied", desc := "()J" } : Jvm.MethodName) prog_9_method_6_code (1 : Nat) (Option.some Jvm.ClassFile.FieldType.long), Jvm.Cond.code ({ cls := "com/example/idunn/idunn/simulation/Semispaces", name := "minFree", desc := "()J" } : Jvm.MethodName) prog_9_method_5_code (1 : Nat) (Option.some Jvm.ClassFile.FieldType.long)]
set_option maxRecDepth 65536 in
theorem codes_eq : words1.filter isCode = codes1 := rfl
theorem w_codes : ∀ c ∈ words1.filter isCode, c.before args0 about1 = true := by
  rw [codes_eq]
  intro c hc
  simp only [codes1, List.mem_cons, List.not_mem_nil, or_false] at hc
  rcases hc with rfl | rfl | rfl | rfl | rfl | rfl | rfl | rfl | rfl | rfl | rfl
  · exact w_c0
  · exact w_c1
  · exact w_c2
  · exact w_c3
  · exact w_c4
  · exact w_c5
  · exact w_c6
  · exact w_c7
  · exact w_c8
  · exact w_c9
  · exact w_c10
set_option maxRecDepth 65536 in
theorem w_t1 : (words1.take 24).all (fun c => isCode c || c.before args0 about1) = true := by decide +kernel
set_option maxRecDepth 65536 in
theorem w_t2 : ((words1.drop 24).take 24).all (fun c => isCode c || c.before args0 about1) = true := by decide +kernel
set_option maxRecDepth 65536 in
theorem w_t3 : ((words1.drop 24).drop 24).all (fun c => isCode c || c.before args0 about1) = true := by decide +kernel
theorem w_tables : (allAtoms (Jvm.Cond.code x code maxLocals ret :: tables_1)).before args0 about1 = true := by
  rw [allAtoms_all]
  show words1.all (fun c => c.before args0 about1) = true
  refine all_split ?_ w_codes
  rw [← List.take_append_drop 24 words1, List.all_append, w_t1, ← List.take_append_drop 24 (words1.drop 24), List.all_append, w_t2, w_t3]
  rfl
set_option maxRecDepth 65536 in
theorem w_case : (Jvm.Cond.and given_1 narrow_1).before args0 about1 = true := by decide +kernel
theorem w_applies : (headSpec (Jvm.Cond.code x code maxLocals ret :: tables_1) room_1).applies x e0.platform about1 = true :=
  (Spec.applies_iff w_frames).mpr ⟨w_running, w_runnable, w_alone, w_named, w_hears, w_ripe, w_room, w_tables⟩
theorem atStart : AtStart classFile x code maxLocals ret World_1 tables_1 room_1 Calls_1 rest_1 Pre_1 launch0 p0 e0 about1 theMethod args0 below0 :=
  ⟨lists_1, trivial, launch0.admits_env _ _ _, launch0.least_env, fairChoices_fair.cas, fairChoices_fair.clock, w_frames, w_args, w_heap, w_applies, trivial, trivial, w_case⟩
end start1
theorem witness_1 : WitnessClaimed_1 := ⟨start1.p0, start1.e0, start1.about1, start1.theMethod, start1.args0, start1.below0, start1.atStart⟩
end Jvm.Pilot.@@N@@
