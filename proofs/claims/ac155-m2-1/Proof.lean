import JvmDerived
import JvmDerived.Pilot.@@N@@Statement
import JvmDerived.Pilot.@@N@@Code
set_option linter.unusedVariables false
set_option linter.unusedSimpArgs false
namespace Jvm.RoadKit
open Sem ClassFile Op Lib Jvm.Stand Jvm.Free Jvm.LawKit
section New
variable {p : Program} {l : Launch} {e : Env} {R : Room} {s : State} {m : MethodId} {args : Array Value} {below : List Frame} {meth : Method} {c : Code} {T : State} {locs : List Loc} {cells slots : Nat}
theorem retI (X : Stand p l e R s m args below meth c T locs cells slots) (hx : p.tables.exec = Jvm.exec) {pc : Nat} {Ls : Array Slot} {z : Int32} {rest : List Value} (hret : meth.sig.returnType = some .int) (hd : decode c.code pc = .ok (.ireturn, 1)) {fs : List Frame}
    (hl : ∀ (f : JFrame) (acts : List Action), f.method = m → f.locked = none → f.entered = [] → (doReturn e (T.setTop f) acts (some (.int z))).1 = T.setFrames fs) : Steps p.tables e below (T.setTop (mkF m pc Ls (.int z :: rest))) (T.setFrames fs) := by
  have hm' : T.vm.method? m = some meth := X.method'
  have hn : narrow .int (.int z) = .int z := rfl
  show Steps p.tables e below (T.setTop { method := m, pc := pc, locals := Ls, stack := _ :: rest, locked := none }) _
  jvm_step X.here [X.here.top, hx, hd, hm', hret, hn]
  first | (intro acts; rw [hl _ acts rfl rfl rfl]) | rw [hl _ _ rfl rfl rfl]
  exact Steps.refl _
end New
end Jvm.RoadKit
/- laws to paste: Road.backV, Road.lenW, Road.chN, Road.eqW (cut by pick.py; bodies as the Statement names them) -/
namespace Jvm.Pilot.@@N@@
namespace StrChars
open Jvm Sem ClassFile Op Lib Jvm.Stand Jvm.Free.XT Jvm.Free.ALB Jvm.Free.JM Jvm.Free
open Jvm.Lib.Cold (StaticIs)
/-- a char array whose places are chars -/
def Ch (a : Addr) (A : Cell) (U : State) : Prop := Arr .char a A U ∧ Typed .char A
theorem Ch.mv {a : Addr} {A : Cell} {U U' : State} (h : Ch a A U) (hal : U.vm.Alike U'.vm) (hh : U'.heap = U.heap) : Ch a A U' := ⟨h.1.mv hal hh, h.2⟩
theorem Ch.keep {a : Addr} {A : Cell} {U U' : State} (h : Ch a A U) (hal : U.vm.Alike U'.vm) (hk : U'.heap[a]? = some A) : Ch a A U' := ⟨h.1.keep hal hk, h.2⟩
/-- what place i of a char[]'s cell holds -/
def cv (A : Cell) (i : Nat) : Int32 := match A.slots[i]? with | some (.int x) => x | _ => 0
theorem Ch.get {a : Addr} {A : Cell} {U : State} (h : Ch a A U) {i : Nat} (hi : i < A.slots.size) : A.slots[i]? = some (.int (cv A i)) := by
  have e := Array.getElem?_eq_getElem hi
  have f := h.2 i _ e
  unfold cv; rw [e]
  generalize A.slots[i] = v at f
  cases v <;> simp [fits] at f ⊢
/-- the byte that i2b leaves of a char -/
def lo8 (x : Int32) : Int32 := x.toInt8.toInt32
theorem fits_lo8 (y : Int32) : fits .byte (.int (lo8 y)) = true := by
  have h1 := y.toInt8.le_toInt
  have h2 := y.toInt8.toInt_lt
  simp only [lo8, fits, Bool.and_eq_true, decide_eq_true_eq, Int32.le_iff_toInt_le, Int8.toInt_toInt32, show (-128 : Int32).toInt = -128 from by decide, show (127 : Int32).toInt = 127 from by decide]
  omega
/-- A' is A but that each place j of lo .. hi - 1 holds f j -/
def Laid (A A' : Cell) (lo hi : Nat) (f : Nat → Value) : Prop := A'.cls = A.cls ∧ A'.vm = A.vm ∧ A'.slots.size = A.slots.size ∧ ∀ i, A'.slots[i]? = if lo ≤ i ∧ i < hi then some (f i) else A.slots[i]?
theorem Laid.zero (A : Cell) (lo : Nat) (f : Nat → Value) : Laid A A lo (lo + 0) f := ⟨rfl, rfl, rfl, fun i => by rw [if_neg (by omega)]⟩
theorem Laid.step {A Ak : Cell} {lo k : Nat} {f : Nat → Value} {v : Value} (h : Laid A Ak lo k f) (hlo : lo ≤ k) (hk : k < Ak.slots.size) (hv : v = f k) : Laid A (Ak.setSlot k v) lo (k + 1) f := by
  refine ⟨h.1, h.2.1, by simpa [Cell.setSlot] using h.2.2.1, fun i => ?_⟩
  by_cases e : k = i
  · subst e; rw [Cell.slots_setSlot_self v hk, if_pos (by omega), hv]
  · rw [Cell.slots_setSlot_ne v e, h.2.2.2 i]
    by_cases q : lo ≤ i ∧ i < k
    · rw [if_pos q, if_pos (by omega)]
    · rw [if_neg q, if_neg (by omega)]
def U16 : String := "java/lang/StringUTF16"
namespace Cmp5
def yN : MethodName := ⟨"java/lang/StringUTF16", "compress", "([CI[BII)I"⟩
abbrev yB : ByteArray := jdk_52_method_21_code
theorem d0 : decode yB 0 = .ok (.iconst 0, 1) := by decide +kernel
theorem d1 : decode yB 1 = .ok (.istore 5, 2) := by decide +kernel
theorem d3 : decode yB 3 = .ok (.iload 5, 2) := by decide +kernel
theorem d5 : decode yB 5 = .ok (.iload 4, 2) := by decide +kernel
theorem d7 : decode yB 7 = .ok (.if_icmp (.ge) 37, 3) := by decide +kernel
theorem d10 : decode yB 10 = .ok (.aload_n 0, 1) := by decide +kernel
theorem d11 : decode yB 11 = .ok (.iload_n 1, 1) := by decide +kernel
theorem d12 : decode yB 12 = .ok (.caload, 1) := by decide +kernel
theorem d13 : decode yB 13 = .ok (.istore 6, 2) := by decide +kernel
theorem d15 : decode yB 15 = .ok (.iload 6, 2) := by decide +kernel
theorem d17 : decode yB 17 = .ok (.sipush 255, 3) := by decide +kernel
theorem d20 : decode yB 20 = .ok (.if_icmp (.le) 6, 3) := by decide +kernel
theorem d26 : decode yB 26 = .ok (.aload_n 2, 1) := by decide +kernel
theorem d27 : decode yB 27 = .ok (.iload_n 3, 1) := by decide +kernel
theorem d28 : decode yB 28 = .ok (.iload 6, 2) := by decide +kernel
theorem d30 : decode yB 30 = .ok (.i2b, 1) := by decide +kernel
theorem d31 : decode yB 31 = .ok (.bastore, 1) := by decide +kernel
theorem d32 : decode yB 32 = .ok (.iinc 1 1, 3) := by decide +kernel
theorem d35 : decode yB 35 = .ok (.iinc 3 1, 3) := by decide +kernel
theorem d38 : decode yB 38 = .ok (.iinc 5 1, 3) := by decide +kernel
theorem d41 : decode yB 41 = .ok (.goto (-38), 3) := by decide +kernel
theorem d44 : decode yB 44 = .ok (.iload 4, 2) := by decide +kernel
theorem d46 : decode yB 46 = .ok (.ireturn, 1) := by decide +kernel
def site : List Cond := []
def tab : Cond := tabOf yN yB 7 (some .int) site
def P (b : Addr) (A : Cell) (d : Addr) (B : Cell) (o q len : Nat) (args : Array Value) (s : State) : Prop := args = #[.ref b, .int (Int32.ofNat o), .ref d, .int (Int32.ofNat q), .int (Int32.ofNat len)] ∧ Ch b A s ∧ Arr .byte d B s ∧ b ≠ d ∧ o + len ≤ A.slots.size ∧ q + len ≤ B.slots.size ∧ ∀ i, i < len → ¬ 255 < cv A (o + i)
def E (b : Addr) (A : Cell) (d : Addr) (B : Cell) (o q len : Nat) (r : Option Value) (s u : State) : Prop := r = some (.int (Int32.ofNat len)) ∧ ∃ B', Put d B' s u ∧ Laid B B' q (q + len) (fun j => Value.int (lo8 (cv A (o + (j - q)))))
/-- no char of the range above 255: len; the places written hold each char's low byte -/
theorem law (l : Launch) (b : Addr) (A : Cell) (d : Addr) (B : Cell) (o q len : Nat) : Law l yN 5 5 0 0 yB 7 (some .int) site (P b A d B o q len) (E b A d B o q len) (copyLocs d q len) 0 0 := by
  refine Law.of_walk (plainFor_of_name (by decide +kernel)) (by decide +kernel) (by decide +kernel) (by decide) (fun _ _ h => by rw [h.1]; rfl) (fun _ U U' hal hh h => ⟨h.1, h.2.1.mv hal hh, h.2.2.1.mv hal hh, h.2.2.2⟩) (fun r U U' V V' h1 hal h2 h => ⟨h.1, h.2.elim fun B' q => ⟨B', q.1.mv h1 h2, q.2⟩⟩) ?_
  intro p e s m args below meth c s₁ X0 hexec hbytes hml hret hlk hnm hown hh0 W hP
  obtain ⟨rfl, hA, hB, hne, l1, l2, hp⟩ := hP
  have c1 : Steps p.tables e below (s₁.setTop (entryFrame m #[.ref b, .int (Int32.ofNat o), .ref d, .int (Int32.ofNat q), .int (Int32.ofNat len)] 7)) (s₁.setTop (mkF m 0 #[.val (.ref b), .val (.int (Int32.ofNat o)), .val (.ref d), .val (.int (Int32.ofNat q)), .val (.int (Int32.ofNat len)), .unset, .unset] [])) := entry rfl
  have hA0 := hA.1.mv X0.warmed.alike hh0
  have hB0 := hB.mv X0.warmed.alike hh0
  have a31 := hA.1.2.2.2
  have c2 : Steps p.tables e below (s₁.setTop (entryFrame m #[.ref b, .int (Int32.ofNat o), .ref d, .int (Int32.ofNat q), .int (Int32.ofNat len)] 7)) (s₁.setTop (mkF m 3 #[.val (.ref b), .val (.int (Int32.ofNat o)), .val (.ref d), .val (.int (Int32.ofNat q)), .val (.int (Int32.ofNat len)), .val (.int 0), .unset] [])) := c1.trans (by
    refine iconstV X0.here hexec rfl 0 (hb hbytes d0) (by decide) ?_
    refine XS.istore X0.here hexec rfl (hb hbytes d1) rfl rfl ?_
    exact Steps.refl _)
  have loop : ∀ (r i : Nat), i + r = len → ∀ (z : Slot), (z = .unset ∨ ∃ w, z = .val w ∧ w.category = 1) → ∀ (Tl : State) (Bk : Cell), Stand p l e { frames := 0, locals := 0, cells := 0, slots := 0 } s m #[.ref b, .int (Int32.ofNat o), .ref d, .int (Int32.ofNat q), .int (Int32.ofNat len)] below meth c Tl ([] ++ copyLocs d q i) 0 0 → Put d Bk s₁ Tl → Laid B Bk q (q + i) (fun j => Value.int (lo8 (cv A (o + (j - q))))) →
      Steps p.tables e below (s₁.setTop (entryFrame m #[.ref b, .int (Int32.ofNat o), .ref d, .int (Int32.ofNat q), .int (Int32.ofNat len)] 7)) (Tl.setTop (mkF m 3 #[.val (.ref b), .val (.int (Int32.ofNat (o + i))), .val (.ref d), .val (.int (Int32.ofNat (q + i))), .val (.int (Int32.ofNat len)), .val (.int (Int32.ofNat i)), z] [])) → ∃ (T' : State) (B' : Cell) (z' : Slot), Stand p l e { frames := 0, locals := 0, cells := 0, slots := 0 } s m #[.ref b, .int (Int32.ofNat o), .ref d, .int (Int32.ofNat q), .int (Int32.ofNat len)] below meth c T' ([] ++ copyLocs d q len) 0 0 ∧ Put d B' s₁ T' ∧ Laid B B' q (q + len) (fun j => Value.int (lo8 (cv A (o + (j - q))))) ∧
      Steps p.tables e below (s₁.setTop (entryFrame m #[.ref b, .int (Int32.ofNat o), .ref d, .int (Int32.ofNat q), .int (Int32.ofNat len)] 7)) (T'.setTop (mkF m 3 #[.val (.ref b), .val (.int (Int32.ofNat (o + len))), .val (.ref d), .val (.int (Int32.ofNat (q + len))), .val (.int (Int32.ofNat len)), .val (.int (Int32.ofNat len)), z'] [])) := by
    intro r
    induction r with
    | zero =>
      intro i hi z hz Tl Bk Xl pl fl cl
      have hil : i = len := by omega
      rw [hil] at Xl fl cl
      exact ⟨Tl, Bk, z, Xl, pl, fl, cl⟩
    | succ r ih =>
      intro i hi z hz Tl Bk Xl pl fl cl
      have all := X0.warmed.alike.symm.trans Xl.warmed.alike
      have hAl := hA0.keep all (pl.other hne hA0.1)
      have hBk := hB0.like all pl.1 fl.1 fl.2.1 fl.2.2.1
      have hlt : q + i < Bk.slots.size := by rw [fl.2.2.1]; omega
      have c3 : Steps p.tables e below (s₁.setTop (entryFrame m #[.ref b, .int (Int32.ofNat o), .ref d, .int (Int32.ofNat q), .int (Int32.ofNat len)] 7)) (Tl.setTop (mkF m 12 #[.val (.ref b), .val (.int (Int32.ofNat (o + i))), .val (.ref d), .val (.int (Int32.ofNat (q + i))), .val (.int (Int32.ofNat len)), .val (.int (Int32.ofNat i)), z] [.int (Int32.ofNat (o + i)), .ref b])) := cl.trans (by
        refine XS.iload Xl.here hexec rfl (hb hbytes d3) rfl ?_
        refine XS.iload Xl.here hexec rfl (hb hbytes d5) rfl ?_
        refine XS.icmpNo Xl.here hexec rfl (hb hbytes d7) rfl (ii_ge_f (lt32 (by omega) (by omega))) ?_
        refine XS.aloadN Xl.here hexec rfl (hb hbytes d10) rfl rfl ?_
        refine XS.iloadN Xl.here hexec rfl (hb hbytes d11) rfl ?_
        exact Steps.refl _)
      have c4 : Steps p.tables e below (s₁.setTop (entryFrame m #[.ref b, .int (Int32.ofNat o), .ref d, .int (Int32.ofNat q), .int (Int32.ofNat len)] 7)) (Tl.setTop (mkF m 13 #[.val (.ref b), .val (.int (Int32.ofNat (o + i))), .val (.ref d), .val (.int (Int32.ofNat (q + i))), .val (.int (Int32.ofNat len)), .val (.int (Int32.ofNat i)), z] [.int (cv A (o + i))])) := c3.trans (by
        refine Xl.aget hexec hAl rfl (hA.get (i := o + i) (by omega)) rfl rfl (hb hbytes d12) ?_
        exact Steps.refl _)
      have c5 : Steps p.tables e below (s₁.setTop (entryFrame m #[.ref b, .int (Int32.ofNat o), .ref d, .int (Int32.ofNat q), .int (Int32.ofNat len)] 7)) (Tl.setTop (mkF m 15 #[.val (.ref b), .val (.int (Int32.ofNat (o + i))), .val (.ref d), .val (.int (Int32.ofNat (q + i))), .val (.int (Int32.ofNat len)), .val (.int (Int32.ofNat i)), .val (.int (cv A (o + i)))] [])) := c4.trans (by
        refine XS.istoreS Xl.here hexec rfl (hb hbytes d13) rfl rfl hz ?_
        exact Steps.refl _)
      have c6 : Steps p.tables e below (s₁.setTop (entryFrame m #[.ref b, .int (Int32.ofNat o), .ref d, .int (Int32.ofNat q), .int (Int32.ofNat len)] 7)) (Tl.setTop (mkF m 31 #[.val (.ref b), .val (.int (Int32.ofNat (o + i))), .val (.ref d), .val (.int (Int32.ofNat (q + i))), .val (.int (Int32.ofNat len)), .val (.int (Int32.ofNat i)), .val (.int (cv A (o + i)))] [.int (lo8 (cv A (o + i))), .int (Int32.ofNat (q + i)), .ref d])) := c5.trans (by
        refine XS.iload Xl.here hexec rfl (hb hbytes d15) rfl ?_
        refine sipushV Xl.here hexec rfl 255 (hb hbytes d17) (by decide) ?_
        refine XS.icmpYes Xl.here hexec rfl (pc0 := 20) rfl (hb hbytes d20) rfl (ii_le_t (hp i (by omega))) (by decide) rfl ?_
        refine XS.aloadN Xl.here hexec rfl (hb hbytes d26) rfl rfl ?_
        refine XS.iloadN Xl.here hexec rfl (hb hbytes d27) rfl ?_
        refine XS.iload Xl.here hexec rfl (hb hbytes d28) rfl ?_
        refine i2b Xl.here hexec rfl (hb hbytes d30) rfl ?_
        exact Steps.refl _)
      obtain ⟨T7, X7, p7, st7⟩ := Xl.aput hexec hBk rfl hlt rfl (fits_lo8 (cv A (o + i))) (g := (mkF m 31 #[.val (.ref b), .val (.int (Int32.ofNat (o + i))), .val (.ref d), .val (.int (Int32.ofNat (q + i))), .val (.int (Int32.ofNat len)), .val (.int (Int32.ofNat i)), .val (.int (cv A (o + i)))] [.int (lo8 (cv A (o + i))), .int (Int32.ofNat (q + i)), .ref d])) rfl (rest := []) rfl (hb hbytes d31)
      have c8 : Steps p.tables e below (s₁.setTop (entryFrame m #[.ref b, .int (Int32.ofNat o), .ref d, .int (Int32.ofNat q), .int (Int32.ofNat len)] 7)) (T7.setTop (mkF m 32 #[.val (.ref b), .val (.int (Int32.ofNat (o + i))), .val (.ref d), .val (.int (Int32.ofNat (q + i))), .val (.int (Int32.ofNat len)), .val (.int (Int32.ofNat i)), .val (.int (cv A (o + i)))] [])) := c6.trans (st7 _ (Steps.refl _))
      have c9 : Steps p.tables e below (s₁.setTop (entryFrame m #[.ref b, .int (Int32.ofNat o), .ref d, .int (Int32.ofNat q), .int (Int32.ofNat len)] 7)) (T7.setTop (mkF m 3 #[.val (.ref b), .val (.int (Int32.ofNat (o + i) + 1)), .val (.ref d), .val (.int (Int32.ofNat (q + i) + 1)), .val (.int (Int32.ofNat len)), .val (.int (Int32.ofNat i + 1)), .val (.int (cv A (o + i)))] [])) := c8.trans (by
        refine iincV X7.here hexec rfl 1 (hb hbytes d32) (by decide) rfl rfl ?_
        refine iincV X7.here hexec rfl 1 (hb hbytes d35) (by decide) rfl rfl ?_
        refine iincV X7.here hexec rfl 1 (hb hbytes d38) (by decide) rfl rfl ?_
        refine XS.goto X7.here hexec rfl (pc0 := 41) rfl (hb hbytes d41) (by decide) rfl ?_
        exact Steps.refl _)
      have c10 : Steps p.tables e below (s₁.setTop (entryFrame m #[.ref b, .int (Int32.ofNat o), .ref d, .int (Int32.ofNat q), .int (Int32.ofNat len)] 7)) (T7.setTop (mkF m 3 #[.val (.ref b), .val (.int (Int32.ofNat (o + (i + 1)))), .val (.ref d), .val (.int (Int32.ofNat (q + (i + 1)))), .val (.int (Int32.ofNat len)), .val (.int (Int32.ofNat (i + 1))), .val (.int (cv A (o + i)))] [])) := by
        have := c9
        rw [succ32, succ32, succ32] at this
        exact this
      exact ih (i + 1) (by omega) _ (Or.inr ⟨_, rfl, rfl⟩) T7 _ (by rw [copyLocs_step, ← List.append_assoc]; exact X7) (pl.trans p7) (fl.step (by omega) hlt (by simp)) c10
  obtain ⟨T9, B9, z9, X9, p9, f9, g9⟩ := loop len 0 (by omega) .unset (Or.inl rfl) s₁ B (by simpa [copyLocs] using X0) ⟨hB0.1, fun _ _ => rfl, rfl⟩ (Laid.zero _ _ _) c2
  have c11 : Steps p.tables e below (s₁.setTop (entryFrame m #[.ref b, .int (Int32.ofNat o), .ref d, .int (Int32.ofNat q), .int (Int32.ofNat len)] 7)) (T9.setTop (mkF m 46 #[.val (.ref b), .val (.int (Int32.ofNat (o + len))), .val (.ref d), .val (.int (Int32.ofNat (q + len))), .val (.int (Int32.ofNat len)), .val (.int (Int32.ofNat len)), z9] [.int (Int32.ofNat len)])) := g9.trans (by
    refine XS.iload X9.here hexec rfl (hb hbytes d3) rfl ?_
    refine XS.iload X9.here hexec rfl (hb hbytes d5) rfl ?_
    refine XS.icmpYes X9.here hexec rfl (pc0 := 7) rfl (hb hbytes d7) rfl (ii_ge_t (nlt32 (by omega) (Nat.le_refl _))) (by decide) rfl ?_
    refine XS.iload X9.here hexec rfl (hb hbytes d44) rfl ?_
    exact Steps.refl _)
  exact ⟨T9, some (.int (Int32.ofNat len)), _, _, _, X9, by simp, rfl, rfl, (fun h => by cases h), ⟨rfl, B9, p9.from hh0, f9⟩, fun fs hl => c11.trans (X9.ireturnOut hexec hret rfl (Or.inl rfl) (hb hbytes d46) hl)⟩
end Cmp5
namespace Cmp3
def yN : MethodName := ⟨"java/lang/StringUTF16", "compress", "([CII)[B"⟩
abbrev yB : ByteArray := jdk_52_method_16_code
theorem d0 : decode yB 0 = .ok (.iload_n 2, 1) := by decide +kernel
theorem d1 : decode yB 1 = .ok (.newarray .byte, 2) := by decide +kernel
theorem d3 : decode yB 3 = .ok (.astore_n 3, 1) := by decide +kernel
theorem d4 : decode yB 4 = .ok (.aload_n 0, 1) := by decide +kernel
theorem d5 : decode yB 5 = .ok (.iload_n 1, 1) := by decide +kernel
theorem d6 : decode yB 6 = .ok (.aload_n 3, 1) := by decide +kernel
theorem d7 : decode yB 7 = .ok (.iconst 0, 1) := by decide +kernel
theorem d8 : decode yB 8 = .ok (.iload_n 2, 1) := by decide +kernel
theorem d9 : decode yB 9 = .ok (.invokestatic 115, 3) := by decide +kernel
theorem d12 : decode yB 12 = .ok (.istore 4, 2) := by decide +kernel
theorem d14 : decode yB 14 = .ok (.iload 4, 2) := by decide +kernel
theorem d16 : decode yB 16 = .ok (.iload_n 2, 1) := by decide +kernel
theorem d17 : decode yB 17 = .ok (.if_icmp (.eq) 40, 3) := by decide +kernel
theorem d57 : decode yB 57 = .ok (.aload_n 3, 1) := by decide +kernel
theorem d58 : decode yB 58 = .ok (.areturn, 1) := by decide +kernel
def site : List Cond := [.arrayClass .byte, Cmp5.tab] ++ staticW U16 115 Cmp5.yN
def tab : Cond := tabOf yN yB 6 (some (.array .byte)) site
def P (b : Addr) (A : Cell) (o len : Nat) (args : Array Value) (s : State) : Prop := args = #[.ref b, .int (Int32.ofNat o), .int (Int32.ofNat len)] ∧ Ch b A s ∧ o + len ≤ A.slots.size ∧ len ≤ 536870912 ∧ ∀ i, i < len → ¬ 255 < cv A (o + i)
def E (b : Addr) (A : Cell) (o len : Nat) (r : Option Value) (s u : State) : Prop := NewArr .byte "[B" len (fun j => .int (lo8 (cv A (o + j)))) r s u ∧ u.heap.size = s.heap.size + 1
/-- no char of the range above 255: a new byte[] of their low bytes -/
theorem law (l : Launch) (b : Addr) (A : Cell) (o len : Nat) : Law l yN 3 3 1 18 yB 6 (some (.array .byte)) site (P b A o len) (E b A o len) [] 1 len := by
  refine Law.of_walk (plainFor_of_name (by decide +kernel)) (by decide +kernel) (by decide +kernel) (by decide) (fun _ _ h => by rw [h.1]; rfl) (fun _ U U' hal hh h => ⟨h.1, h.2.1.mv hal hh, h.2.2⟩) (fun r U U' V V' h1 hal h2 h => ⟨NewArr.mv r U U' V V' h1 hal h2 h.1, by rw [h1, h2]; exact h.2⟩) ?_
  intro p e s m args below meth c s₁ X0 hexec hbytes hml hret hlk hnm hown hh0 W hP
  obtain ⟨rfl, hA, l1, l2, hp⟩ := hP
  have a31 := hA.1.2.2.2
  have c1 : Steps p.tables e below (s₁.setTop (entryFrame m #[.ref b, .int (Int32.ofNat o), .int (Int32.ofNat len)] 6)) (s₁.setTop (mkF m 0 #[.val (.ref b), .val (.int (Int32.ofNat o)), .val (.int (Int32.ofNat len)), .unset, .unset, .unset] [])) := entry rfl
  have c2 : Steps p.tables e below (s₁.setTop (entryFrame m #[.ref b, .int (Int32.ofNat o), .int (Int32.ofNat len)] 6)) (s₁.setTop (mkF m 1 #[.val (.ref b), .val (.int (Int32.ofNat o)), .val (.int (Int32.ofNat len)), .unset, .unset, .unset] [.int (Int32.ofNat len)])) := c1.trans (by
    refine XS.iloadN X0.here hexec rfl (hb hbytes d0) rfl ?_
    exact Steps.refl _)
  obtain ⟨T3, B3, X3, ba3, bs3, bv3, bh3, bf3, st3⟩ := X0.anew hexec (atype := .byte) (wk W (.arrayClass .byte)) rfl (by show len * 1 ≤ _; omega) (by omega) (g := (mkF m 1 #[.val (.ref b), .val (.int (Int32.ofNat o)), .val (.int (Int32.ofNat len)), .unset, .unset, .unset] [.int (Int32.ofNat len)])) rfl (hb hbytes d1) (rest := []) rfl (Nat.le_refl _) (by show 0 + len ≤ len; omega)
  rw [hh0] at ba3 st3
  have kp3 : XT.Kept s T3 := (XT.Kept.of_eq hh0).push bh3
  have hA3 := hA.keep X3.warmed.alike (kp3 _ _ hA.1.1)
  have hne : b ≠ s.heap.size := hA.1.ne
  have c4 : Steps p.tables e below (s₁.setTop (entryFrame m #[.ref b, .int (Int32.ofNat o), .int (Int32.ofNat len)] 6)) (T3.setTop (mkF m 3 #[.val (.ref b), .val (.int (Int32.ofNat o)), .val (.int (Int32.ofNat len)), .unset, .unset, .unset] [.ref s.heap.size])) := c2.trans (st3 _ (Steps.refl _))
  have c5 : Steps p.tables e below (s₁.setTop (entryFrame m #[.ref b, .int (Int32.ofNat o), .int (Int32.ofNat len)] 6)) (T3.setTop (mkF m 9 #[.val (.ref b), .val (.int (Int32.ofNat o)), .val (.int (Int32.ofNat len)), .val (.ref s.heap.size), .unset, .unset] [.int (Int32.ofNat len), .int 0, .ref s.heap.size, .int (Int32.ofNat o), .ref b])) := c4.trans (by
    refine XS.astoreN X3.here hexec rfl (hb hbytes d3) rfl rfl rfl ?_
    refine XS.aloadN X3.here hexec rfl (hb hbytes d4) rfl rfl ?_
    refine XS.iloadN X3.here hexec rfl (hb hbytes d5) rfl ?_
    refine XS.aloadN X3.here hexec rfl (hb hbytes d6) rfl rfl ?_
    refine iconstV X3.here hexec rfl 0 (hb hbytes d7) (by decide) ?_
    refine XS.iloadN X3.here hexec rfl (hb hbytes d8) rfl ?_
    exact Steps.refl _)
  obtain ⟨v6, T6, X6, E6, g6⟩ := X3.callS hexec (Cmp5.law l b A s.heap.size B3 o 0 len) hown (wks W (staticW U16 115 Cmp5.yN)) (wk W Cmp5.tab) (W := 0) (Nat.le_of_ble_eq_true rfl) (Nat.le_of_ble_eq_true rfl) (Nat.le_refl _) (by show 0 + len + 0 ≤ len; omega) (g := (mkF m 9 #[.val (.ref b), .val (.int (Int32.ofNat o)), .val (.int (Int32.ofNat len)), .val (.ref s.heap.size), .unset, .unset] [.int (Int32.ofNat len), .int (Int32.ofNat 0), .ref s.heap.size, .int (Int32.ofNat o), .ref b])) rfl (by rw [hml]; rfl) c5 (argsL := [.ref b, .int (Int32.ofNat o), .ref s.heap.size, .int (Int32.ofNat 0), .int (Int32.ofNat len)]) (rest := []) rfl rfl (by show 2 * 0 + 0 ≤ _; decide) (hb hbytes d9) (⟨rfl, hA3, ba3, hne, l1, by rw [bs3]; simp, hp⟩)
  obtain ⟨rfl, B6, p6, f6⟩ := E6
  have c7 : Steps p.tables e below (s₁.setTop (entryFrame m #[.ref b, .int (Int32.ofNat o), .int (Int32.ofNat len)] 6)) (T6.setTop (mkF m 12 #[.val (.ref b), .val (.int (Int32.ofNat o)), .val (.int (Int32.ofNat len)), .val (.ref s.heap.size), .unset, .unset] [.int (Int32.ofNat len)])) := g6
  have c8 : Steps p.tables e below (s₁.setTop (entryFrame m #[.ref b, .int (Int32.ofNat o), .int (Int32.ofNat len)] 6)) (T6.setTop (mkF m 58 #[.val (.ref b), .val (.int (Int32.ofNat o)), .val (.int (Int32.ofNat len)), .val (.ref s.heap.size), .val (.int (Int32.ofNat len)), .unset] [.ref s.heap.size])) := c7.trans (by
    refine XS.istore X6.here hexec rfl (hb hbytes d12) rfl rfl ?_
    refine XS.iload X6.here hexec rfl (hb hbytes d14) rfl ?_
    refine XS.iloadN X6.here hexec rfl (hb hbytes d16) rfl ?_
    refine XS.icmpYes X6.here hexec rfl (pc0 := 17) rfl (hb hbytes d17) rfl (ii_eq_t rfl) (by decide) rfl ?_
    refine XS.aloadN X6.here hexec rfl (hb hbytes d57) rfl rfl ?_
    exact Steps.refl _)
  have X8 := X6.wide (L' := []) (cells' := 1) (slots' := len) (fun x hx hlt => by
    simp only [List.nil_append, copyLocs, List.mem_map, List.mem_range] at hx
    obtain ⟨i, -, rfl⟩ := hx
    exact absurd hlt (Nat.lt_irrefl _)) (Nat.le_refl _) (by omega)
  exact ⟨T6, some (.ref s.heap.size), _, _, _, X8, rfl, rfl, rfl, (fun h => by cases h), ⟨⟨rfl, B6, ba3.like (X3.warmed.alike.symm.trans X6.warmed.alike) p6.1 f6.1 f6.2.1 f6.2.2.1, f6.2.1.trans bv3, by rw [X6.warmed.alike.findClass, f6.1]; exact bf3, by rw [f6.2.2.1, bs3]; simp, fun j hj => by rw [f6.2.2.2 j, if_pos (by omega)]; rfl, kp3.put p6 (Nat.le_refl _)⟩, by rw [p6.2.2, bh3, hh0]; simp⟩, fun fs hl => c8.trans (X8.areturnOut hexec rfl hret rfl (hb hbytes d58) hl)⟩
end Cmp3
namespace CodL
def yN : MethodName := ⟨"java/lang/StringUTF16", "coderFromArrayLen", "([BI)B"⟩
abbrev yB : ByteArray := jdk_52_method_15_code
theorem d0 : decode yB 0 = .ok (.iload_n 1, 1) := by decide +kernel
theorem d1 : decode yB 1 = .ok (.aload_n 0, 1) := by decide +kernel
theorem d2 : decode yB 2 = .ok (.arraylength, 1) := by decide +kernel
theorem d3 : decode yB 3 = .ok (.isub, 1) := by decide +kernel
theorem d4 : decode yB 4 = .ok (.bipush 31, 2) := by decide +kernel
theorem d6 : decode yB 6 = .ok (.iushr, 1) := by decide +kernel
theorem d7 : decode yB 7 = .ok (.i2b, 1) := by decide +kernel
theorem d8 : decode yB 8 = .ok (.ireturn, 1) := by decide +kernel
def site : List Cond := []
def tab : Cond := tabOf yN yB 2 (some .byte) site
def P (d : Addr) (B : Cell) (args : Array Value) (s : State) : Prop := args = #[.ref d, .int (Int32.ofNat B.slots.size)] ∧ Arr .byte d B s
def E (r : Option Value) (s u : State) : Prop := XT.PureE (some (.int 0)) r s u
/-- an array as long as the number of chars: LATIN1 -/
theorem law (l : Launch) (d : Addr) (B : Cell) : Law l yN 2 2 0 0 yB 2 (some .byte) site (P d B) E [] 0 0 := by
  refine Law.of_walk (plainFor_of_name (by decide +kernel)) (by decide +kernel) (by decide +kernel) (by decide) (fun _ _ h => by rw [h.1]; rfl) (fun _ U U' hal hh h => ⟨h.1, h.2.mv hal hh⟩) (fun r U U' V V' h1 hal h2 h => XT.PureE.mv r U U' V V' h1 hal h2 h) ?_
  intro p e s m args below meth c s₁ X0 hexec hbytes hml hret hlk hnm hown hh0 W hP
  obtain ⟨rfl, hB⟩ := hP
  have hB0 := hB.mv X0.warmed.alike hh0
  have c1 : Steps p.tables e below (s₁.setTop (entryFrame m #[.ref d, .int (Int32.ofNat B.slots.size)] 2)) (s₁.setTop (mkF m 0 #[.val (.ref d), .val (.int (Int32.ofNat B.slots.size))] [])) := entry rfl
  have c2 : Steps p.tables e below (s₁.setTop (entryFrame m #[.ref d, .int (Int32.ofNat B.slots.size)] 2)) (s₁.setTop (mkF m 2 #[.val (.ref d), .val (.int (Int32.ofNat B.slots.size))] [.ref d, .int (Int32.ofNat B.slots.size)])) := c1.trans (by
    refine XS.iloadN X0.here hexec rfl (hb hbytes d0) rfl ?_
    refine XS.aloadN X0.here hexec rfl (hb hbytes d1) rfl rfl ?_
    exact Steps.refl _)
  have c3 : Steps p.tables e below (s₁.setTop (entryFrame m #[.ref d, .int (Int32.ofNat B.slots.size)] 2)) (s₁.setTop (mkF m 8 #[.val (.ref d), .val (.int (Int32.ofNat B.slots.size))] [.int (lo8 (ushr (Int32.ofNat B.slots.size - Int32.ofNat B.slots.size) 31))])) := c2.trans (by
    refine X0.alen hexec hB0 rfl rfl (hb hbytes d2) ?_
    refine XS.isub X0.here hexec rfl (hb hbytes d3) rfl ?_
    refine bipushV X0.here hexec rfl 31 (hb hbytes d4) (by decide) ?_
    refine iushr X0.here hexec rfl (hb hbytes d6) rfl ?_
    refine i2b X0.here hexec rfl (hb hbytes d7) rfl ?_
    exact Steps.refl _)
  have e0 : lo8 (ushr (Int32.ofNat B.slots.size - Int32.ofNat B.slots.size) 31) = 0 := by rw [Int32.sub_self]; decide
  rw [e0] at c3
  exact ⟨s₁, some (.int 0), _, _, _, X0, rfl, rfl, rfl, (fun h => by cases h), ⟨rfl, hh0⟩, fun fs hl => c3.trans (X0.ireturnOut hexec hret rfl (Or.inr (Or.inr (Or.inl rfl))) (hb hbytes d8) hl)⟩
end CodL
/-- the String at a is Latin-1 over a new byte[] (the heap's one new cell): the low bytes of the len chars of A from o on; every cell but a is kept -/
def Got (a : Addr) (D : Cell) (fV fC : Field) (A : Cell) (o len : Nat) (r : Option Value) (s u : State) : Prop := r = none ∧ ∃ D' V : Cell, Blank "java/lang/String" a D' u ∧ Same D D' [fV.slot, fC.slot] ∧ D'.slots[fV.slot]? = some (.ref s.heap.size) ∧ D'.slots[fC.slot]? = some (.int 0) ∧ Arr .byte s.heap.size V u ∧ V.vm = .none ∧ u.vm.findClass "[B" = some V.cls ∧ V.slots.size = len ∧ (∀ j, j < len → V.slots[j]? = some (.int (lo8 (cv A (o + j))))) ∧ (∀ (y : Addr) (c : Cell), y ≠ a → s.heap[y]? = some c → u.heap[y]? = some c) ∧ u.heap.size = s.heap.size + 1
theorem Got.mv {a : Addr} {D A : Cell} {fV fC : Field} {o len : Nat} : ∀ r (U U' V V' : State), U'.heap = U.heap → V.vm.Alike V'.vm → V'.heap = V.heap → Got a D fV fC A o len r U V → Got a D fV fC A o len r U' V' :=
  fun r U U' V V' h1 hal h2 ⟨e0, D', X, a1, a2, a3, a4, a5, a6, a7, a8, a9, a10, a11⟩ => ⟨e0, D', X, a1.mv hal h2, a2, by rw [h1]; exact a3, a4, by rw [h1]; exact a5.mv hal h2, a6, by rw [hal.findClass]; exact a7, a8, a9, by rw [h1, h2]; exact a10, by rw [h1, h2]; exact a11⟩
namespace New4
def yN : MethodName := ⟨"java/lang/String", "<init>", "([CIILjava/lang/Void;)V"⟩
abbrev yB : ByteArray := jdk_42_method_149_code
theorem d0 : decode yB 0 = .ok (.aload_n 0, 1) := by decide +kernel
theorem d1 : decode yB 1 = .ok (.invokespecial 1, 3) := by decide +kernel
theorem d4 : decode yB 4 = .ok (.iload_n 3, 1) := by decide +kernel
theorem d5 : decode yB 5 = .ok (.ifCond (.ne) 22, 3) := by decide +kernel
theorem d27 : decode yB 27 = .ok (.getstatic 38, 3) := by decide +kernel
theorem d30 : decode yB 30 = .ok (.ifCond (.eq) 28, 3) := by decide +kernel
theorem d33 : decode yB 33 = .ok (.aload_n 1, 1) := by decide +kernel
theorem d34 : decode yB 34 = .ok (.iload_n 2, 1) := by decide +kernel
theorem d35 : decode yB 35 = .ok (.iload_n 3, 1) := by decide +kernel
theorem d36 : decode yB 36 = .ok (.invokestatic 177, 3) := by decide +kernel
theorem d39 : decode yB 39 = .ok (.astore 5, 2) := by decide +kernel
theorem d41 : decode yB 41 = .ok (.aload_n 0, 1) := by decide +kernel
theorem d42 : decode yB 42 = .ok (.aload 5, 2) := by decide +kernel
theorem d44 : decode yB 44 = .ok (.iload_n 3, 1) := by decide +kernel
theorem d45 : decode yB 45 = .ok (.invokestatic 47, 3) := by decide +kernel
theorem d48 : decode yB 48 = .ok (.putfield 15, 3) := by decide +kernel
theorem d51 : decode yB 51 = .ok (.aload_n 0, 1) := by decide +kernel
theorem d52 : decode yB 52 = .ok (.aload 5, 2) := by decide +kernel
theorem d54 : decode yB 54 = .ok (.putfield 9, 3) := by decide +kernel
theorem d57 : decode yB 57 = .ok (.return_, 1) := by decide +kernel
def site : List Cond := [.fieldLink "java/lang/String" 38 "java/lang/String" "COMPACT_STRINGS" "Z", Cmp3.tab, CodL.tab, .laysFinal "java/lang/String" "java/lang/String" "value" "[B", .fieldLink "java/lang/String" 9 "java/lang/String" "value" "[B", .laysFinal "java/lang/String" "java/lang/String" "coder" "B", .fieldLink "java/lang/String" 15 "java/lang/String" "coder" "B"] ++ objW "java/lang/String" 1 ++ staticW "java/lang/String" 177 Cmp3.yN ++ staticW "java/lang/String" 47 CodL.yN
def tab : Cond := tabOf yN yB 6 none site
def P (a : Addr) (D : Cell) (fV fC : Field) (b : Addr) (A : Cell) (z : Int32) (o len : Nat) (args : Array Value) (s : State) : Prop := args = #[.ref a, .ref b, .int (Int32.ofNat o), .int (Int32.ofNat len), .null] ∧ Blank "java/lang/String" a D s ∧ Found "java/lang/String" "value" "[B" fV s ∧ Found "java/lang/String" "coder" "B" fC s ∧ Ch b A s ∧ StaticIs s "java/lang/String" "COMPACT_STRINGS" "Z" (.int z) ∧ ¬ z = 0 ∧ 0 < len ∧ o + len ≤ A.slots.size ∧ len ≤ 536870912 ∧ ∀ i, i < len → ¬ 255 < cv A (o + i)
def E (a : Addr) (D : Cell) (fV fC : Field) (A : Cell) (o len : Nat) (r : Option Value) (s u : State) : Prop := Got a D fV fC A o len r s u
/-- len > 0, no char of the range above 255: a Latin-1 String of their low bytes -/
theorem law (l : Launch) (a : Addr) (D : Cell) (fV fC : Field) (b : Addr) (A : Cell) (z : Int32) (o len : Nat) : Law l yN 5 4 2 35 yB 6 none site (P a D fV fC b A z o len) (E a D fV fC A o len) [⟨a, fC.slot⟩, ⟨a, fV.slot⟩] 1 len := by
  refine Law.of_walk (plainFor_of_name (by decide +kernel)) (by decide +kernel) (by decide +kernel) (by decide) (fun _ _ h => by rw [h.1]; rfl) (fun _ U U' hal hh h => ⟨h.1, h.2.1.mv hal hh, h.2.2.1.al hal, h.2.2.2.1.al hal, h.2.2.2.2.1.mv hal hh, h.2.2.2.2.2.1.there hal hh, h.2.2.2.2.2.2⟩) (fun r U U' V V' h1 hal h2 h => Got.mv r U U' V V' h1 hal h2 h) ?_
  intro p e s m args below meth c s₁ X0 hexec hbytes hml hret hlk hnm hown hh0 W hP
  obtain ⟨rfl, hB, f1, f2, hA, s1, hz, l0, l1, l2, hp⟩ := hP
  have a31 := hA.1.2.2.2
  have c1 : Steps p.tables e below (s₁.setTop (entryFrame m #[.ref a, .ref b, .int (Int32.ofNat o), .int (Int32.ofNat len), .null] 6)) (s₁.setTop (mkF m 0 #[.val (.ref a), .val (.ref b), .val (.int (Int32.ofNat o)), .val (.int (Int32.ofNat len)), .val .null, .unset] [])) := entry rfl
  have c2 : Steps p.tables e below (s₁.setTop (entryFrame m #[.ref a, .ref b, .int (Int32.ofNat o), .int (Int32.ofNat len), .null] 6)) (s₁.setTop (mkF m 1 #[.val (.ref a), .val (.ref b), .val (.int (Int32.ofNat o)), .val (.int (Int32.ofNat len)), .val .null, .unset] [.ref a])) := c1.trans (by
    refine XS.aloadN X0.here hexec rfl (hb hbytes d0) rfl rfl ?_
    exact Steps.refl _)
  obtain ⟨T3, X3, q3, st3⟩ := X0.oinit hexec hown (wks W (objW "java/lang/String" 1)) (g := (mkF m 1 #[.val (.ref a), .val (.ref b), .val (.int (Int32.ofNat o)), .val (.int (Int32.ofNat len)), .val .null, .unset] [.ref a])) rfl (by rw [hml]; rfl) (rest := []) rfl (hb hbytes d1) (W := 0) (by show 2 * 0 + 0 ≤ _; decide) (Nat.le_of_ble_eq_true rfl) (Nat.le_of_ble_eq_true rfl)
  have hh3 := q3.trans hh0
  have c4 : Steps p.tables e below (s₁.setTop (entryFrame m #[.ref a, .ref b, .int (Int32.ofNat o), .int (Int32.ofNat len), .null] 6)) (T3.setTop (mkF m 27 #[.val (.ref a), .val (.ref b), .val (.int (Int32.ofNat o)), .val (.int (Int32.ofNat len)), .val .null, .unset] [])) := (c2.trans (st3 _ (Steps.refl _))).trans (by
    refine XS.iloadN X3.here hexec rfl (hb hbytes d4) rfl ?_
    refine XS.ifYes X3.here hexec rfl (pc0 := 5) rfl (hb hbytes d5) rfl (i0_ne_t (nz32 (by omega) l0)) (by decide) rfl ?_
    exact Steps.refl _)
  obtain ⟨T5, X5, q5, st5⟩ := X3.sget hexec hown (wk W (.fieldLink "java/lang/String" 38 "java/lang/String" "COMPACT_STRINGS" "Z")) s1 (fun _ _ h => by rw [hh3]; exact h) (g := (mkF m 27 #[.val (.ref a), .val (.ref b), .val (.int (Int32.ofNat o)), .val (.int (Int32.ofNat len)), .val .null, .unset] [])) rfl (hb hbytes d27)
  have hh5 := q5.trans hh3
  have c6 : Steps p.tables e below (s₁.setTop (entryFrame m #[.ref a, .ref b, .int (Int32.ofNat o), .int (Int32.ofNat len), .null] 6)) (T5.setTop (mkF m 30 #[.val (.ref a), .val (.ref b), .val (.int (Int32.ofNat o)), .val (.int (Int32.ofNat len)), .val .null, .unset] [.int z])) := c4.trans (st5 _ (Steps.refl _))
  have c7 : Steps p.tables e below (s₁.setTop (entryFrame m #[.ref a, .ref b, .int (Int32.ofNat o), .int (Int32.ofNat len), .null] 6)) (T5.setTop (mkF m 36 #[.val (.ref a), .val (.ref b), .val (.int (Int32.ofNat o)), .val (.int (Int32.ofNat len)), .val .null, .unset] [.int (Int32.ofNat len), .int (Int32.ofNat o), .ref b])) := c6.trans (by
    refine XS.ifNo X5.here hexec rfl (hb hbytes d30) rfl (i0_eq_f hz) ?_
    refine XS.aloadN X5.here hexec rfl (hb hbytes d33) rfl rfl ?_
    refine XS.iloadN X5.here hexec rfl (hb hbytes d34) rfl ?_
    refine XS.iloadN X5.here hexec rfl (hb hbytes d35) rfl ?_
    exact Steps.refl _)
  obtain ⟨v8, T8, X8, E8, g8⟩ := X5.callS hexec (Cmp3.law l b A o len) hown (wks W (staticW "java/lang/String" 177 Cmp3.yN)) (wk W Cmp3.tab) (W := 0) (Nat.le_of_ble_eq_true rfl) (Nat.le_of_ble_eq_true rfl) (Nat.le_refl _) (by show 0 + len ≤ len; omega) (g := (mkF m 36 #[.val (.ref a), .val (.ref b), .val (.int (Int32.ofNat o)), .val (.int (Int32.ofNat len)), .val .null, .unset] [.int (Int32.ofNat len), .int (Int32.ofNat o), .ref b])) rfl (by rw [hml]; rfl) c7 (argsL := [.ref b, .int (Int32.ofNat o), .int (Int32.ofNat len)]) (rest := []) rfl rfl (by show 2 * 0 + 0 ≤ _; decide) (hb hbytes d36) (⟨rfl, hA.mv X5.warmed.alike hh5, l1, l2, hp⟩)
  obtain ⟨e8, z8⟩ := E8
  obtain ⟨rfl, N, n1, n2, n3, n4, n5, n6⟩ := NewArr.mv _ T5 s _ _ hh5.symm (Vm.Alike.refl _) rfl e8
  rw [hh5] at z8
  have hB1 := hB.keep X8.warmed.alike (n6 _ _ hB.1)
  have hne : s.heap.size ≠ a := (Nat.ne_of_lt (Array.getElem?_eq_some_iff.mp hB.1).1).symm
  have c9 : Steps p.tables e below (s₁.setTop (entryFrame m #[.ref a, .ref b, .int (Int32.ofNat o), .int (Int32.ofNat len), .null] 6)) (T8.setTop (mkF m 39 #[.val (.ref a), .val (.ref b), .val (.int (Int32.ofNat o)), .val (.int (Int32.ofNat len)), .val .null, .unset] [.ref s.heap.size])) := g8
  have c10 : Steps p.tables e below (s₁.setTop (entryFrame m #[.ref a, .ref b, .int (Int32.ofNat o), .int (Int32.ofNat len), .null] 6)) (T8.setTop (mkF m 45 #[.val (.ref a), .val (.ref b), .val (.int (Int32.ofNat o)), .val (.int (Int32.ofNat len)), .val .null, .val (.ref s.heap.size)] [.int (Int32.ofNat N.slots.size), .ref s.heap.size, .ref a])) := by
    have hc : Steps p.tables e below (s₁.setTop (entryFrame m #[.ref a, .ref b, .int (Int32.ofNat o), .int (Int32.ofNat len), .null] 6)) (T8.setTop (mkF m 45 #[.val (.ref a), .val (.ref b), .val (.int (Int32.ofNat o)), .val (.int (Int32.ofNat len)), .val .null, .val (.ref s.heap.size)] [.int (Int32.ofNat len), .ref s.heap.size, .ref a])) := c9.trans (by
      refine XS.astore X8.here hexec rfl (hb hbytes d39) rfl rfl rfl ?_
      refine XS.aloadN X8.here hexec rfl (hb hbytes d41) rfl rfl ?_
      refine XS.aload X8.here hexec rfl (hb hbytes d42) rfl rfl ?_
      refine XS.iloadN X8.here hexec rfl (hb hbytes d44) rfl ?_
      exact Steps.refl _)
    rw [n4]; exact hc
  obtain ⟨v11, T11, X11, E11, g11⟩ := X8.callS hexec (CodL.law l s.heap.size N) hown (wks W (staticW "java/lang/String" 47 CodL.yN)) (wk W CodL.tab) (W := 1) (Nat.le_of_ble_eq_true rfl) (Nat.le_of_ble_eq_true rfl) (Nat.le_refl _) (by show 0 + len + 0 ≤ len; omega) (g := (mkF m 45 #[.val (.ref a), .val (.ref b), .val (.int (Int32.ofNat o)), .val (.int (Int32.ofNat len)), .val .null, .val (.ref s.heap.size)] [.int (Int32.ofNat N.slots.size), .ref s.heap.size, .ref a])) rfl (by rw [hml]; rfl) c10 (argsL := [.ref s.heap.size, .int (Int32.ofNat N.slots.size)]) (rest := [.ref a]) rfl rfl (by show 2 * 0 + (1 + 0) ≤ _; decide) (hb hbytes d45) (⟨rfl, n1⟩)
  obtain ⟨rfl, q11⟩ := E11
  have hB11 := hB1.mv (X8.warmed.alike.symm.trans X11.warmed.alike) q11
  have c12 : Steps p.tables e below (s₁.setTop (entryFrame m #[.ref a, .ref b, .int (Int32.ofNat o), .int (Int32.ofNat len), .null] 6)) (T11.setTop (mkF m 48 #[.val (.ref a), .val (.ref b), .val (.int (Int32.ofNat o)), .val (.int (Int32.ofNat len)), .val .null, .val (.ref s.heap.size)] [.int 0, .ref a])) := g11
  obtain ⟨T13, X13, p13, bl13, sl13, st13⟩ := X11.finit hexec hown (wk W (.fieldLink "java/lang/String" 15 "java/lang/String" "coder" "B")) (Or.inr ⟨_, (wk W (.laysFinal "java/lang/String" "java/lang/String" "coder" "B"))⟩) (Or.inl ⟨rfl, hnm⟩) f2 (Or.inl rfl) hB11 (t := .byte) (by decide +kernel) rfl (g := (mkF m 48 #[.val (.ref a), .val (.ref b), .val (.int (Int32.ofNat o)), .val (.int (Int32.ofNat len)), .val .null, .val (.ref s.heap.size)] [.int 0, .ref a])) rfl (rest := []) rfl (hb hbytes d48)
  have c14 : Steps p.tables e below (s₁.setTop (entryFrame m #[.ref a, .ref b, .int (Int32.ofNat o), .int (Int32.ofNat len), .null] 6)) (T13.setTop (mkF m 54 #[.val (.ref a), .val (.ref b), .val (.int (Int32.ofNat o)), .val (.int (Int32.ofNat len)), .val .null, .val (.ref s.heap.size)] [.ref s.heap.size, .ref a])) := (c12.trans (st13 _ (Steps.refl _))).trans (by
    refine XS.aloadN X13.here hexec rfl (hb hbytes d51) rfl rfl ?_
    refine XS.aload X13.here hexec rfl (hb hbytes d52) rfl rfl ?_
    exact Steps.refl _)
  obtain ⟨T15, X15, p15, bl15, sl15, st15⟩ := X13.finit hexec hown (wk W (.fieldLink "java/lang/String" 9 "java/lang/String" "value" "[B")) (Or.inr ⟨_, (wk W (.laysFinal "java/lang/String" "java/lang/String" "value" "[B"))⟩) (Or.inl ⟨rfl, hnm⟩) f1 (Or.inl rfl) bl13 (t := (.array .byte)) (by decide +kernel) rfl (g := (mkF m 54 #[.val (.ref a), .val (.ref b), .val (.int (Int32.ofNat o)), .val (.int (Int32.ofNat len)), .val .null, .val (.ref s.heap.size)] [.ref s.heap.size, .ref a])) rfl (rest := []) rfl (hb hbytes d54)
  have c16 : Steps p.tables e below (s₁.setTop (entryFrame m #[.ref a, .ref b, .int (Int32.ofNat o), .int (Int32.ofNat len), .null] 6)) (T15.setTop (mkF m 57 #[.val (.ref a), .val (.ref b), .val (.int (Int32.ofNat o)), .val (.int (Int32.ofNat len)), .val .null, .val (.ref s.heap.size)] [])) := c14.trans (st15 _ (Steps.refl _))
  have ap := apart (Or.inr ⟨_, (wk W (.laysFinal "java/lang/String" "java/lang/String" "value" "[B"))⟩) (Or.inr ⟨_, (wk W (.laysFinal "java/lang/String" "java/lang/String" "coder" "B"))⟩) f1 f2 (t₁ := .array .byte) (t₂ := .byte) (by decide +kernel) (by decide +kernel) (by decide)
  have al := X8.warmed.alike.symm.trans X15.warmed.alike
  have n7 : T11.heap[s.heap.size]? = some N := by rw [q11]; exact n1.1
  exact ⟨T15, none, _, _, _, X15, by simp, rfl, by omega, (fun _ => rfl), ⟨rfl, _, N, bl15, ((Same.refl D _).set _ (by simp)).set _ (by simp), sl15, (Cell.slots_setSlot_ne _ ap).trans sl13, n1.keep al (p15.other hne (p13.other hne n7)), n2, by rw [al.findClass]; exact n3, n4, n5, fun y c h1 h2 => p15.other h1 (p13.other h1 (by rw [q11]; exact n6 y c h2)), by rw [p15.2.2, p13.2.2, q11]; exact z8⟩, fun fs hl => c16.trans (X15.returnOut hexec hret (hb hbytes d57) hl)⟩
end New4
namespace New1
def yN : MethodName := ⟨"java/lang/String", "<init>", "([C)V"⟩
abbrev yB : ByteArray := jdk_42_method_3_code
theorem d0 : decode yB 0 = .ok (.aload_n 0, 1) := by decide +kernel
theorem d1 : decode yB 1 = .ok (.aload_n 1, 1) := by decide +kernel
theorem d2 : decode yB 2 = .ok (.iconst 0, 1) := by decide +kernel
theorem d3 : decode yB 3 = .ok (.aload_n 1, 1) := by decide +kernel
theorem d4 : decode yB 4 = .ok (.arraylength, 1) := by decide +kernel
theorem d5 : decode yB 5 = .ok (.aconst_null, 1) := by decide +kernel
theorem d6 : decode yB 6 = .ok (.invokespecial 27, 3) := by decide +kernel
theorem d9 : decode yB 9 = .ok (.return_, 1) := by decide +kernel
def site : List Cond := [New4.tab] ++ initW "java/lang/String" 27 New4.yN
def tab : Cond := tabOf yN yB 2 none site
def P (a : Addr) (D : Cell) (fV fC : Field) (b : Addr) (A : Cell) (z : Int32) (args : Array Value) (s : State) : Prop := args = #[.ref a, .ref b] ∧ Blank "java/lang/String" a D s ∧ Found "java/lang/String" "value" "[B" fV s ∧ Found "java/lang/String" "coder" "B" fC s ∧ Ch b A s ∧ StaticIs s "java/lang/String" "COMPACT_STRINGS" "Z" (.int z) ∧ ¬ z = 0 ∧ 0 < A.slots.size ∧ A.slots.size ≤ 536870912 ∧ ∀ i, i < A.slots.size → ¬ 255 < cv A i
def E (a : Addr) (D : Cell) (fV fC : Field) (A : Cell) (r : Option Value) (s u : State) : Prop := Got a D fV fC A 0 A.slots.size r s u
/-- new String(chars), not empty, no char above 255: a Latin-1 String of their low bytes -/
theorem law (l : Launch) (a : Addr) (D : Cell) (fV fC : Field) (b : Addr) (A : Cell) (z : Int32) : Law l yN 2 1 3 52 yB 2 none site (P a D fV fC b A z) (E a D fV fC A) [⟨a, fC.slot⟩, ⟨a, fV.slot⟩] 1 A.slots.size := by
  refine Law.of_walk (plainFor_of_name (by decide +kernel)) (by decide +kernel) (by decide +kernel) (by decide) (fun _ _ h => by rw [h.1]; rfl) (fun _ U U' hal hh h => ⟨h.1, h.2.1.mv hal hh, h.2.2.1.al hal, h.2.2.2.1.al hal, h.2.2.2.2.1.mv hal hh, h.2.2.2.2.2.1.there hal hh, h.2.2.2.2.2.2⟩) (fun r U U' V V' h1 hal h2 h => Got.mv r U U' V V' h1 hal h2 h) ?_
  intro p e s m args below meth c s₁ X0 hexec hbytes hml hret hlk hnm hown hh0 W hP
  obtain ⟨rfl, hB, f1, f2, hA, s1, hz, l0, l2, hp⟩ := hP
  have c1 : Steps p.tables e below (s₁.setTop (entryFrame m #[.ref a, .ref b] 2)) (s₁.setTop (mkF m 0 #[.val (.ref a), .val (.ref b)] [])) := entry rfl
  have c2 : Steps p.tables e below (s₁.setTop (entryFrame m #[.ref a, .ref b] 2)) (s₁.setTop (mkF m 6 #[.val (.ref a), .val (.ref b)] [.null, .int (Int32.ofNat A.slots.size), .int 0, .ref b, .ref a])) := c1.trans (by
    refine XS.aloadN X0.here hexec rfl (hb hbytes d0) rfl rfl ?_
    refine XS.aloadN X0.here hexec rfl (hb hbytes d1) rfl rfl ?_
    refine iconstV X0.here hexec rfl 0 (hb hbytes d2) (by decide) ?_
    refine XS.aloadN X0.here hexec rfl (hb hbytes d3) rfl rfl ?_
    refine X0.alen hexec (hA.1.mv X0.warmed.alike hh0) rfl rfl (hb hbytes d4) ?_
    refine XS.aconstNull X0.here hexec rfl (hb hbytes d5) ?_
    exact Steps.refl _)
  obtain ⟨v3, T3, X3, E3, g3⟩ := X0.callN hexec (New4.law l a D fV fC b A z 0 A.slots.size) rfl hown (wks W (initW "java/lang/String" 27 New4.yN)) (W New4.tab (by simp only [site, List.mem_cons, List.mem_append, true_or, or_true])) (W := 0) (Nat.le_of_ble_eq_true rfl) (Nat.le_of_ble_eq_true rfl) (Nat.le_refl _) (by show 0 + A.slots.size ≤ A.slots.size; omega) (g := (mkF m 6 #[.val (.ref a), .val (.ref b)] [.null, .int (Int32.ofNat A.slots.size), .int (Int32.ofNat 0), .ref b, .ref a])) rfl (by rw [hml]; rfl) c2 (argsL := [.ref b, .int (Int32.ofNat 0), .int (Int32.ofNat A.slots.size), .null]) (rest := []) rfl rfl (by show 2 * 0 + 0 ≤ _; decide) (hb hbytes d6) (⟨rfl, hB.mv X0.warmed.alike hh0, f1.al X0.warmed.alike, f2.al X0.warmed.alike, hA.mv X0.warmed.alike hh0, s1.there X0.warmed.alike hh0, hz, l0, by omega, l2, fun i hi => by rw [Nat.zero_add]; exact hp i hi⟩)
  have e0 := Got.mv _ s₁ s _ _ hh0.symm (Vm.Alike.refl _) rfl E3
  obtain rfl := e0.1
  have c4 : Steps p.tables e below (s₁.setTop (entryFrame m #[.ref a, .ref b] 2)) (T3.setTop (mkF m 9 #[.val (.ref a), .val (.ref b)] [])) := g3
  exact ⟨T3, none, _, _, _, X3, by simp, rfl, by omega, (fun _ => rfl), e0, fun fs hl => c4.trans (X3.returnOut hexec hret (hb hbytes d9) hl)⟩
theorem pays {l : Launch} {R : Room} {p : Program} {e : Env} {below : List Frame} {s : State} {sargs : Array Value} {len W : Nat} (a : Addr) (D : Cell) (fV fC : Field) (b : Addr) (A : Cell) (z : Int32) (htab : tab.before sargs s = true) (hfr : 4 ≤ R.frames) (hlo : W + 65 ≤ R.locals) :
    Back l R p e below s sargs yN len W (fun A₁ a₁ => A₁.cells + 1 ≤ R.cells ∧ A₁.slots + A.slots.size ≤ R.slots ∧ P a D fV fC b A z a₁ A₁.U) (fun A₁ _ v₁ B₁ => E a D fV fC A v₁ A₁.U B₁.U ∧ B₁.locs = A₁.locs ++ [⟨a, fC.slot⟩, ⟨a, fV.slot⟩] ∧ B₁.cells = A₁.cells + 1 ∧ B₁.slots = A₁.slots + A.slots.size) :=
  (law l a D fV fC b A z).pays htab hfr (by omega)
end New1
/-- the byte, read back as charAt reads it, is the char -/
theorem lo8_mask {x : Int32} (h0 : ¬ x < 0) (h1 : ¬ 255 < x) : lo8 x &&& 255 = x := by
  have t : ∀ k : Fin 256, lo8 (Int32.ofNat k.val) &&& 255 = Int32.ofNat k.val := by decide +kernel
  rw [Int32.lt_iff_toInt_lt] at h0 h1
  have e0 : (0 : Int32).toInt = 0 := rfl
  have e1 : (255 : Int32).toInt = 255 := rfl
  obtain ⟨k, hk⟩ : ∃ k : Nat, x.toInt = k := ⟨x.toInt.toNat, by omega⟩
  have hx : x = Int32.ofNat k := Int32.toInt_inj.mp (by rw [hk, Int32.toInt_ofNat_small (by omega)])
  rw [hx]
  exact t ⟨k, by omega⟩
end StrChars
namespace StrChars.Road
open Jvm Sem ClassFile Op Lib Jvm.Stand Jvm.Free Jvm.Free.XT
open Jvm.Lib.Cold (StaticIs)
abbrev ST : String := "java/lang/String"
/-- every table word that New1's law asks, flat -/
abbrev words : List Jvm.Cond := [.code New1.yN New1.yB 2 none, .initialized ST, .methodLink ST 27 New4.yN, .instanceMethod New4.yN,
  .code New4.yN New4.yB 6 none, .fieldLink ST 38 ST "COMPACT_STRINGS" "Z", .laysFinal ST ST "value" "[B", .fieldLink ST 9 ST "value" "[B", .laysFinal ST ST "coder" "B", .fieldLink ST 15 ST "coder" "B",
  .methodLink ST 1 Lib.objectInit, .instanceMethod Lib.objectInit, .code Lib.objectInit ⟨#[0xb1]⟩ 1 none, .methodLink ST 177 Cmp3.yN, .static Cmp3.yN, .methodLink ST 47 CodL.yN, .static CodL.yN,
  .code Cmp3.yN Cmp3.yB 6 (some (.array .byte)), .initialized U16, .arrayClass .byte, .methodLink U16 115 Cmp5.yN, .static Cmp5.yN, .code Cmp5.yN Cmp5.yB 7 (some .int), .code CodL.yN CodL.yB 2 (some .byte)]
theorem tab_of {a : Array Value} {s : State} (h : ∀ w ∈ words, w.before a s = true) : New1.tab.before a s = true := by
  have h5 : Cmp5.tab.before a s = true := unparts (wk h (.code Cmp5.yN Cmp5.yB 7 (some .int))) (wks h (.initialized Cmp5.yN.cls :: Cmp5.site))
  have hc : CodL.tab.before a s = true := unparts (wk h (.code CodL.yN CodL.yB 2 (some .byte))) (wks h (.initialized CodL.yN.cls :: CodL.site))
  have q5 : ∀ w ∈ Cmp5.tab :: words, w.before a s = true := fun w hw => (List.mem_cons.mp hw).elim (fun e => e ▸ h5) (h w)
  have h3 : Cmp3.tab.before a s = true := unparts (wk q5 (.code Cmp3.yN Cmp3.yB 6 (some (.array .byte)))) (wks q5 (.initialized Cmp3.yN.cls :: Cmp3.site))
  have q3 : ∀ w ∈ Cmp3.tab :: CodL.tab :: words, w.before a s = true := fun w hw => (List.mem_cons.mp hw).elim (fun e => e ▸ h3) fun hw => (List.mem_cons.mp hw).elim (fun e => e ▸ hc) (h w)
  have h4 : New4.tab.before a s = true := unparts (wk q3 (.code New4.yN New4.yB 6 none)) (wks q3 (.initialized New4.yN.cls :: New4.site))
  have q4 : ∀ w ∈ New4.tab :: words, w.before a s = true := fun w hw => (List.mem_cons.mp hw).elim (fun e => e ▸ h4) (h w)
  exact unparts (wk q4 (.code New1.yN New1.yB 2 none)) (wks q4 (.initialized New1.yN.cls :: New1.site))
/-- the words ride from the start Z to the walk's own state -/
theorem moved {Z s : State} {a0 args : Array Value} (hZ : Z.Warmed39 s.vm) (hw : ∀ d ∈ words, d.before a0 Z = true) : ∀ d ∈ words, d.before args s = true := fun d hd => by
  have q := hw d hd
  have t : ∀ d ∈ words, d = .arrayClass .byte ∨ (d.onTables && d.keepsFace) = true := by decide +kernel
  rcases t d hd with rfl | t
  · exact RoadKit.mvA hZ q
  · exact RoadKit.mv hZ q t
/-- WHAT COMES BACK, over the tables of the start Z: h the heap at the call, h' behind it -/
def Q (Z : State) (x : Addr) (A : Cell) (h : Heap) (v : Option Value) (h' : Heap) (L : List Loc) : Prop := v = none ∧ (∀ y ∈ L, y.base = x) ∧ RoadKit.Keep h h' [x] ∧ h'.size = h.size + 1 ∧ RoadKit.Exa Z h' x ST ∧ RoadKit.Fld Z h' x ST "value" "[B" (.ref h.size) ∧ RoadKit.Fld Z h' x ST "coder" "B" (.int 0) ∧
  (∃ V : Cell, RoadKit.Arr Z h' h.size V .byte ∧ V.vm = .none ∧ Z.vm.findClass "[B" = some V.cls ∧ V.slots.size = A.slots.size ∧ ∀ j, j < A.slots.size → V.slots[j]? = some (.int (lo8 (cv A j)))) ∧
  ∀ (O n d : String) (w : Value), RoadKit.Fld Z h x O n d w → RoadKit.slotOf Z O n d ≠ RoadKit.slotOf Z ST "value" "[B" → RoadKit.slotOf Z O n d ≠ RoadKit.slotOf Z ST "coder" "B" → RoadKit.Fld Z h' x O n d w
/-- **new String(chars) AT A CALL, IN THE ROAD'S FORM**: for specialBack behind newO: x the fresh String, b the char[] with the cell A -/
theorem back {p : Program} {l : Launch} {e : Env} {R : Room} {s : State} {args : Array Value} {below : List Frame} {len W : Nat} {Z : State} {a0 : Array Value} {h : Heap} (hZ : Z.Warmed39 s.vm) (hw : ∀ d ∈ words, d.before a0 Z = true) {kI : Nat} (wi : (Jvm.Cond.instantiable ST kI).before a0 Z = true)
    {x b : Addr} {A : Cell} {z : Int32} {v0 c0 : Value} (E : RoadKit.Exa Z h x ST) (V : RoadKit.Fld Z h x ST "value" "[B" v0) (C : RoadKit.Fld Z h x ST "coder" "B" c0) (K : RoadKit.Arr Z h b A .char) (hty : Typed .char A) (S : RoadKit.Sta Z h ST "COMPACT_STRINGS" "Z" (.int z)) (hz : ¬ z = 0)
    (l0 : 0 < A.slots.size) (l2 : A.slots.size ≤ 536870912) (hp : ∀ i, i < A.slots.size → ¬ 255 < cv A i) (hfr : 4 ≤ R.frames) (hlo : W + 65 ≤ R.locals) :
    Back l R p e below s args New1.yN len W (fun P a => a = #[.ref x, .ref b] ∧ P.U.heap = h ∧ P.cells + 1 ≤ R.cells ∧ P.slots + A.slots.size ≤ R.slots)
      (fun P _ v B => ∃ L, Q Z x A h v B.U.heap L ∧ B.locs = P.locs ++ L ∧ B.cells = P.cells + 1 ∧ B.slots = P.slots + A.slots.size) := by
  intro m meth c P g ig mk a X hg hsize hdg hW hn hp'
  obtain ⟨rfl, rfl, r1, r2⟩ := hp'
  have al : Z.vm.Alike P.U.vm := hZ.alike.trans X.warmed.alike
  obtain ⟨D, cfV, kV, iV, fV, hD, gV, stV, knV, obV, asV, slV⟩ := id V
  obtain ⟨D', cfC, kC, iC, fC, hD', gC, stC, -, -, asC, slC⟩ := id C
  cases hD.symm.trans hD'
  obtain ⟨D2, kD, e1, e2, e3, e4, e5⟩ := id E
  cases hD.symm.trans e1
  obtain ⟨c2, k2, i1, i2, i3, -⟩ := Cond.instantiable_spec wi
  cases e2.symm.trans i1
  cases e3.symm.trans i2
  obtain ⟨kU, u1, u2⟩ := al.2.2 _ _ e3
  have hB : Blank ST x D P.U := ⟨hD, ⟨knV, fun q hq => by rw [hq] at obV; cases obV⟩, by rw [al.findClass]; exact e2, kU, u1, by rw [u2]; exact i3, by rw [u2]; exact e5 i3⟩
  have F1 : Found ST "value" "[B" fV P.U := ⟨SBG.found_only al ⟨cfV, kV, iV, gV⟩, stV⟩
  have F2 : Found ST "coder" "B" fC P.U := ⟨SBG.found_only al ⟨cfC, kC, iC, gC⟩, stC⟩
  have hA : Ch b A P.U := ⟨⟨K.1, State.isArrayOf_alike al K.2.1, K.2.2, by omega⟩, hty⟩
  have hS : StaticIs P.U ST "COMPACT_STRINGS" "Z" (.int z) := by
    obtain ⟨cfS, iS, kS, fS, st, cS, t1, t2, t3, t4, t5, t6, t7⟩ := S
    exact StaticIs.there (s := { Z with heap := P.U.heap }) ⟨cfS, iS, kS, fS, st, cS, t1, t2, t3, t4, t5, (fun q => by rw [q] at t6; cases t6), t7⟩ al rfl
  obtain ⟨v, B, X', ⟨⟨hv, E', V', q1, q2, q3, q4, q5, q6, q7, q8, q9, q10, q11⟩, hl, hc, hs⟩, st⟩ := New1.pays x D fV fC b A z (tab_of (moved hZ hw)) hfr hlo m meth c P g ig mk _ X hg hsize hdg hW hn ⟨r1, r2, rfl, hB, F1, F2, hA, hS, hz, l0, l2, hp⟩
  have al' : Z.vm.Alike B.U.vm := hZ.alike.trans X'.warmed.alike
  have hsz : E'.slots.size = D.slots.size := by
    obtain ⟨-, -, -, kB, w1, w2, w3⟩ := q1
    obtain ⟨kB', y1, y2⟩ := al'.2.2 _ _ e3
    rw [q2.2.1] at w1
    cases w1.symm.trans y1
    rw [w3, e5 i3, y2]
  refine ⟨v, B, X', ⟨_, ⟨hv, ?_, ⟨by omega, fun y cy hy hn' => q10 y cy (by simpa using hn') hy, fun y cy hy => ?_⟩, q11, ⟨E', _, q1.1, by rw [q2.2.1]; exact e2, by rw [q2.2.1]; exact e3, by rw [q2.1]; exact obV, fun _ => by rw [hsz]; exact e5 i3⟩,
    ⟨E', cfV, kV, iV, fV, q1.1, gV, stV, by rw [q2.1]; exact knV, by rw [q2.1]; exact obV, by rw [q2.2.1]; exact asV, q3⟩, ⟨E', cfC, kC, iC, fC, q1.1, gC, stC, by rw [q2.1]; exact knV, by rw [q2.1]; exact obV, by rw [q2.2.1]; exact asC, q4⟩,
    ⟨V', ⟨q5.1, State.isArrayOf_alike al'.symm q5.2.1, q5.2.2.1⟩, q6, by rw [← al'.findClass]; exact q7, q8, fun j hj => by have := q9 j hj; rwa [Nat.zero_add] at this⟩, fun O n d w F n1 n2 => ?_⟩, hl, hc, hs⟩, st⟩
  · intro y hy
    simp only [List.mem_cons, List.not_mem_nil, or_false] at hy
    rcases hy with rfl | rfl <;> rfl
  · by_cases q : y = x
    · subst q
      cases hD.symm.trans hy
      exact ⟨E', q1.1, q2.2.1, q2.1, hsz⟩
    · exact ⟨cy, q10 y cy q hy, rfl, rfl, rfl⟩
  · obtain ⟨D3, cf, k, i, f, g1, g2, g3, g4, g5, g6, g7⟩ := F
    cases hD.symm.trans g1
    simp only [RoadKit.slotOf, g2, gV, gC, Option.map_some, Option.getD_some] at n1 n2
    exact ⟨E', cf, k, i, f, q1.1, g2, g3, by rw [q2.1]; exact g4, by rw [q2.1]; exact g5, by rw [q2.2.1]; exact g6, by rw [q2.2.2 f.slot (by simp [n1, n2])]; exact g7⟩
end StrChars.Road
namespace StrChars.Road
open Jvm Sem ClassFile Op Lib Jvm.Stand Jvm.Free Jvm.Free.XT
/-- WHAT COMES BACK, the byte[] as a list of values -/
def QA (Z : State) (x : Addr) (zn : Int32) (cs : List Int32) (h : Heap) (v : Option Value) (h' : Heap) (L : List Loc) : Prop := v = none ∧ (∀ y ∈ L, y.base = x) ∧ RoadKit.Keep h h' [x] ∧ h'.size = h.size + 1 ∧ RoadKit.Exa Z h' x ST ∧ RoadKit.Fld Z h' x ST "value" "[B" (.ref h.size) ∧ RoadKit.Fld Z h' x ST "coder" "B" (.int 0) ∧
  (∃ kb, Z.vm.findClass "[B" = some kb ∧ RoadKit.Arv Z h' h.size kb .byte zn (cs.map fun c => .int (lo8 c)) (.int 0)) ∧
  ∀ (O n d : String) (w : Value), RoadKit.Fld Z h x O n d w → RoadKit.slotOf Z O n d ≠ RoadKit.slotOf Z ST "value" "[B" → RoadKit.slotOf Z O n d ≠ RoadKit.slotOf Z ST "coder" "B" → RoadKit.Fld Z h' x O n d w
/-- **new String(chars) AT A CALL, THE ARRAYS AS LISTS**: the char[] at b holds cs, not empty, no char above 255 -/
theorem backArv {p : Program} {l : Launch} {e : Env} {R : Room} {s : State} {args : Array Value} {below : List Frame} {len W : Nat} {Z : State} {a0 : Array Value} {h : Heap} (hZ : Z.Warmed39 s.vm) (hw : ∀ d ∈ words, d.before a0 Z = true) {kI : Nat} (wi : (Jvm.Cond.instantiable ST kI).before a0 Z = true)
    {x b : Addr} {k : ClassId} {zn z : Int32} {cs : List Int32} {dv v0 c0 : Value} (E : RoadKit.Exa Z h x ST) (V : RoadKit.Fld Z h x ST "value" "[B" v0) (C : RoadKit.Fld Z h x ST "coder" "B" c0) (K : RoadKit.Arv Z h b k .char zn (cs.map Value.int) dv) (S : RoadKit.Sta Z h ST "COMPACT_STRINGS" "Z" (.int z)) (hz : ¬ z = 0)
    (hlen : zn.toNatClampNeg = cs.length) (h0 : 0 < cs.length) (hbig : cs.length ≤ 536870912) (hall : ∀ c ∈ cs, ¬ 255 < c) (hfr : 4 ≤ R.frames) (hlo : W + 65 ≤ R.locals) :
    Back l R p e below s args New1.yN len W (fun P a => a = #[.ref x, .ref b] ∧ P.U.heap = h ∧ P.cells + 1 ≤ R.cells ∧ P.slots + cs.length ≤ R.slots)
      (fun P _ v B => ∃ L, QA Z x zn cs h v B.U.heap L ∧ B.locs = P.locs ++ L ∧ B.cells = P.cells + 1 ∧ B.slots = P.slots + cs.length) := by
  obtain ⟨A, K1, K2, K3, K4, K5, K6⟩ := K
  have e : A.slots.size = cs.length := K3.trans hlen
  have hat : ∀ (i : Nat) (hi : i < cs.length), A.slots[i]? = some (.int cs[i]) := fun i hi => by rw [K5 i (by omega)]; simp [List.getD_eq_getElem?_getD, hi]
  have hcv : ∀ (i : Nat) (hi : i < cs.length), cv A i = cs[i] := fun i hi => by unfold cv; rw [hat i hi]
  have hty : Typed .char A := fun i v hv => by
    have hi : i < A.slots.size := (Array.getElem?_eq_some_iff.mp hv).1
    have q := K5 i hi
    rw [hv] at q
    rw [Option.some.inj q]
    exact K6 i hi
  refine Back.mono (back hZ hw wi E V C K1 hty S hz (by omega) (by omega) (fun i hi => by rw [hcv i (by omega)]; exact hall _ (List.getElem_mem _)) hfr hlo) (fun P a hp => ⟨hp.1, hp.2.1, hp.2.2.1, by rw [e]; exact hp.2.2.2⟩) (fun P a v B hp hq => ?_)
  obtain ⟨L, ⟨q1, q2, q3, q4, q5, q6, q7, ⟨V', v1, v2, v3, v4, v5⟩, q9⟩, hl, hc, hs⟩ := hq
  refine ⟨L, ⟨q1, q2, q3, q4, q5, q6, q7, ⟨V'.cls, v3, V', v1, rfl, by rw [v4, e, hlen], K4, fun i hi => ?_, fun i hi => ?_⟩, q9⟩, hl, hc, by rw [hs, e]⟩
  · have hi' : i < cs.length := by omega
    rw [v5 i (by omega), hcv i hi']; simp [List.getD_eq_getElem?_getD, hi']
  · have hi' : i < cs.length := by omega
    simp only [List.getD_eq_getElem?_getD, List.getElem?_map, List.getElem?_eq_getElem hi', Option.map_some, Option.getD_some]
    exact fits_lo8 _
end StrChars.Road
namespace StrChars.Road
open Jvm Sem ClassFile Op Lib Jvm.Stand Jvm.Free Jvm.Free.XT
/-- WHAT COMES BACK, in the writer's own shape -/
def QV (Z : State) (x : Addr) (N : Int32) (bs : List Int32) (h : Heap) (n0 : Nat) (v : Option Value) (h' : Heap) (L : List Loc) : Prop := v = none ∧ RoadKit.Fr n0 L ∧ RoadKit.Keep h h' [x] ∧ RoadKit.Exa Z h' x ST ∧ RoadKit.Fld Z h' x ST "coder" "B" (.int 0) ∧
  ∃ (t : Addr) (kb : ClassId), n0 ≤ t ∧ h.size ≤ t ∧ ¬ t = x ∧ RoadKit.Fld Z h' x ST "value" "[B" (.ref t) ∧ RoadKit.Arv Z h' t kb .byte N (bs.map Value.int) (.int 0)
/-- **new String(chars) AT A CALL, FOR THE WRITER**: a char[] of n known ints, each 0 to 255 -/
theorem backV {p : Program} {l : Launch} {e : Env} {R : Room} {s : State} {args : Array Value} {below : List Frame} {len W : Nat} {Z : State} {a0 : Array Value} {h : Heap} (hZ : Z.Warmed39 s.vm) (hw : ∀ d ∈ words, d.before a0 Z = true) {kI : Nat} (wi : (Jvm.Cond.instantiable ST kI).before a0 Z = true)
    {x b : Addr} {kC : ClassId} {cs bs : List Int32} {d v0 c0 : Value} {z N : Int32} {n n0 : Nat} (hx0 : n0 ≤ x) (hh0 : n0 ≤ h.size) (E : RoadKit.Exa Z h x ST) (V : RoadKit.Fld Z h x ST "value" "[B" v0) (C : RoadKit.Fld Z h x ST "coder" "B" c0) (K : RoadKit.Arv Z h b kC .char N (cs.map Value.int) d) (S : RoadKit.Sta Z h ST "COMPACT_STRINGS" "Z" (.int z)) (hz : ¬ z = 0)
    (hn : cs.length = n) (hN : N = Int32.ofNat n) (l0 : 0 < n) (l2 : n ≤ 4000) (hp : ∀ c ∈ cs, ¬ c < 0 ∧ ¬ (255 : Int32) < c) (hb : bs = cs.map (fun c => c.toInt8.toInt32)) (hfr : 4 ≤ R.frames) (hlo : W + 65 ≤ R.locals) :
    Back l R p e below s args (⟨"java/lang/String", "<init>", "([C)V"⟩ : MethodName) len W (fun P a => a = #[.ref x, .ref b] ∧ P.U.heap = h ∧ P.cells + 1 ≤ R.cells ∧ P.slots + n ≤ R.slots)
      (fun P _ v B => ∃ L, QV Z x N bs h n0 v B.U.heap L ∧ B.locs = P.locs ++ L ∧ B.cells = P.cells + 1 ∧ B.slots = P.slots + n) := by
  subst hn hN hb
  refine Back.mono (backArv hZ hw wi E V C K S hz (n32 (by omega)) l0 (by omega) (fun c hc => (hp c hc).2) hfr hlo) (fun P a hp => hp) (fun P a v B hp hq => ?_)
  obtain ⟨L, ⟨q1, q2, q3, q4, q5, q6, q7, ⟨kb, v1, v2⟩, q9⟩, hl, hc, hs⟩ := hq
  exact ⟨L, ⟨q1, fun y hy => by rw [q2 y hy]; exact hx0, q3, q5, q7, h.size, kb, hh0, Nat.le_refl _, Nat.ne_of_gt E.lt, q6, by rw [List.map_map]; exact v2⟩, hl, hc, hs⟩
end StrChars.Road
namespace StrChars
open Jvm Sem ClassFile Op Lib Jvm.Stand Jvm.Free.XT Jvm.Free.ALB Jvm.Free.JM Jvm.Free
open Jvm.Lib.Cold (StaticIs)
def hi8 (x : Int32) : Int32 := lo8 (x >>> ((8 : Int32) &&& 31))
/-- what StringUTF16.getChar makes of two bytes -/
def pairCh (u v : Int32) : Int32 := (((u &&& 255) <<< ((0 : Int32) &&& 31)) ||| ((v &&& 255) <<< ((8 : Int32) &&& 31))).toUInt32.toUInt16.toUInt32.toInt32
theorem shr0 (c : Int32) : c >>> ((0 : Int32) &&& 31) = c := by
  have e : ((0 : Int32) &&& 31) = 0 := by decide
  rw [e]
  apply Int32.toBitVec_inj.mp
  rw [Int32.toBitVec_shiftRight]
  have e1 : ((0 : Int32).toBitVec.smod 32) = 0#32 := by decide
  rw [e1, BitVec.sshiftRight_eq']
  exact BitVec.sshiftRight_zero
theorem lo8_and (x : Int32) : (lo8 x &&& 255).toBitVec.toNat = x.toBitVec.toNat % 256 := by
  have h : (lo8 x).toBitVec = (x.toBitVec.signExtend 8).signExtend 32 := by rw [lo8, Int8.toBitVec_toInt32, Int32.toBitVec_toInt8]
  rw [Int32.toBitVec_and, BitVec.toNat_and, h]
  have e : ((x.toBitVec.signExtend 8).signExtend 32).toNat % 256 = x.toBitVec.toNat % 256 := by
    rw [BitVec.toNat_signExtend]
    have hlt := x.toBitVec.isLt
    simp only [BitVec.toNat_setWidth, BitVec.toNat_signExtend]
    split <;> split <;> omega
  rw [← e]
  exact Nat.and_two_pow_sub_one_eq_mod _ 8
theorem pair_says {c : Int32} (h0 : ¬ c < 0) (h1 : ¬ 65535 < c) : pairCh (lo8 c) (hi8 c) = c := by
  rw [Int32.lt_iff_toInt_lt] at h0 h1
  have e0 : (0 : Int32).toInt = 0 := rfl
  have e1 : (65535 : Int32).toInt = 65535 := rfl
  have hc : c.toInt = c.toBitVec.toNat := by
    have := c.toBitVec.isLt
    have e : c.toInt = c.toBitVec.toInt := rfl
    rw [e] at h0 h1
    rw [e]
    rw [BitVec.toInt_eq_toNat_cond] at h0 h1 ⊢
    split at h0 <;> split <;> omega
  have hn : c.toBitVec.toNat < 65536 := by omega
  have a1 := lo8_and c
  have a2 : (hi8 c &&& 255).toBitVec.toNat = c.toBitVec.toNat / 256 := by
    rw [hi8, lo8_and]
    have e : ((8 : Int32) &&& 31) = 8 := by decide
    rw [e, Int32.toBitVec_shiftRight]
    have e2 : ((8 : Int32).toBitVec.smod 32) = 8#32 := by decide
    rw [e2, BitVec.sshiftRight_eq', BitVec.toNat_sshiftRight_of_msb_false (by rw [BitVec.msb_eq_false_iff_two_mul_lt]; omega)]
    show c.toBitVec.toNat >>> 8 % 256 = _
    rw [Nat.shiftRight_eq_div_pow]
    omega
  unfold pairCh
  apply Int32.toBitVec_inj.mp
  apply BitVec.eq_of_toNat_eq
  have f0 : ((0 : Int32) &&& 31) = 0 := by decide
  have f8 : ((8 : Int32) &&& 31) = 8 := by decide
  rw [f0, f8]
  have g : (((lo8 c &&& 255) <<< (0 : Int32)) ||| ((hi8 c &&& 255) <<< (8 : Int32))).toBitVec.toNat = c.toBitVec.toNat := by
    rw [Int32.toBitVec_or, Int32.toBitVec_shiftLeft, Int32.toBitVec_shiftLeft]
    have s0 : ((0 : Int32).toBitVec.smod 32) = 0#32 := by decide
    have s8 : ((8 : Int32).toBitVec.smod 32) = 8#32 := by decide
    rw [s0, s8, BitVec.toNat_or]
    simp only [BitVec.shiftLeft_eq', BitVec.toNat_shiftLeft, a1, a2]
    show (c.toBitVec.toNat % 256) <<< 0 % 2 ^ 32 ||| (c.toBitVec.toNat / 256) <<< 8 % 2 ^ 32 = _
    rw [Nat.shiftLeft_zero, Nat.mod_eq_of_lt (show c.toBitVec.toNat % 256 < 2 ^ 32 by omega), Nat.mod_eq_of_lt (show (c.toBitVec.toNat / 256) <<< 8 < 2 ^ 32 by rw [Nat.shiftLeft_eq]; omega), Nat.or_comm, ← Nat.shiftLeft_add_eq_or_of_lt (by omega), Nat.shiftLeft_eq]
    omega
  show BitVec.toNat (((((lo8 c &&& 255) <<< (0 : Int32)) ||| ((hi8 c &&& 255) <<< (8 : Int32))).toBitVec.setWidth 16).setWidth 32) = _
  rw [BitVec.toNat_setWidth, BitVec.toNat_setWidth, g]
  omega
end StrChars
namespace StrChars
open Jvm Sem ClassFile Op Lib Jvm.Stand Jvm.Free.XT Jvm.Free.ALB Jvm.Free.JM Jvm.Free
open Jvm.Lib.Cold (StaticIs)
theorem shr1 {n : Nat} (h : 2 * n < 2 ^ 31) : Int32.ofNat (2 * n) >>> ((1 : Int32) &&& 31) = Int32.ofNat n := by
  have e : ((1 : Int32) &&& 31) = 1 := by decide
  rw [e]
  apply Int32.toBitVec_inj.mp
  rw [Int32.toBitVec_shiftRight]
  have e1 : ((1 : Int32).toBitVec.smod 32) = 1#32 := by decide
  have hm : (BitVec.ofNat 32 (2 * n)).toNat = 2 * n := by rw [BitVec.toNat_ofNat, Nat.mod_eq_of_lt (by omega)]
  rw [e1, BitVec.sshiftRight_eq']
  apply BitVec.eq_of_toNat_eq
  show ((BitVec.ofNat 32 (2 * n)).sshiftRight 1).toNat = (BitVec.ofNat 32 n).toNat
  rw [BitVec.toNat_sshiftRight_of_msb_false (by rw [BitVec.msb_eq_false_iff_two_mul_lt, hm]; omega), hm, BitVec.toNat_ofNat, Nat.shiftRight_eq_div_pow]
  omega
/-- charAt's cast of a byte read back -/
def chr8 (u : Int32) : Int32 := (u &&& 255).toUInt32.toUInt16.toUInt32.toInt32
theorem chr8_lo8 {c : Int32} (h0 : ¬ c < 0) (h1 : ¬ 255 < c) : chr8 (lo8 c) = c := by
  have t : ∀ k : Fin 256, (Int32.ofNat k.val).toUInt32.toUInt16.toUInt32.toInt32 = Int32.ofNat k.val := by decide +kernel
  unfold chr8
  rw [lo8_mask h0 h1]
  rw [Int32.lt_iff_toInt_lt] at h0 h1
  have e0 : (0 : Int32).toInt = 0 := rfl
  have e1 : (255 : Int32).toInt = 255 := rfl
  obtain ⟨k, hk⟩ : ∃ k : Nat, c.toInt = k := ⟨c.toInt.toNat, by omega⟩
  have hx : c = Int32.ofNat k := Int32.toInt_inj.mp (by rw [hk, Int32.toInt_ofNat_small (by omega)])
  rw [hx]
  exact t ⟨k, by omega⟩
theorem narrow_ch {c : Int32} (h0 : ¬ c < 0) (h1 : ¬ 65535 < c) : narrow .char (.int c) = .int c := by
  have q : narrow .char (.int (pairCh (lo8 c) (hi8 c))) = .int (pairCh (lo8 c) (hi8 c)) := narrow_c _
  rwa [pair_says h0 h1] at q
/-- the array's cell V codes the n chars f 0 .. f (n - 1) by the coder cd, as the JDK does: coder 1 just where some char is above 255 -/
def Cod (cd : Int32) (n : Nat) (f : Nat → Int32) (V : Cell) : Prop := (cd = 0 ∧ V.slots.size = n ∧ ∀ j, j < n → V.slots[j]? = some (.int (lo8 (f j))) ∧ ¬ 255 < f j) ∨ (cd = 1 ∧ V.slots.size = 2 * n ∧ (∀ j, j < n → V.slots[2 * j]? = some (.int (lo8 (f j))) ∧ V.slots[2 * j + 1]? = some (.int (hi8 (f j)))) ∧ ∃ j, j < n ∧ 255 < f j)
theorem Cod.cd {cd : Int32} {n : Nat} {f : Nat → Int32} {V : Cell} (h : Cod cd n f V) : cd = 0 ∨ cd = 1 := h.imp (fun q => q.1) fun q => q.1
theorem Cod.len {cd : Int32} {n : Nat} {f : Nat → Int32} {V : Cell} (h : Cod cd n f V) (hs : V.slots.size < 2 ^ 31) : Int32.ofNat V.slots.size >>> (cd &&& 31) = Int32.ofNat n := by
  rcases h with ⟨rfl, h, -⟩ | ⟨rfl, h, -⟩
  · rw [shr0, h]
  · rw [h, shr1 (by omega)]
/-- **x is a String of the n chars f 0 .. f (n - 1)**, Latin-1 or UTF-16; its array at t has the cell V -/
def Txt (x t : Addr) (V : Cell) (cd : Int32) (n : Nat) (f : Nat → Int32) (U : State) : Prop := Exact "java/lang/String" x U ∧ Has x "java/lang/String" "value" "[B" (.ref t) U ∧ Has x "java/lang/String" "coder" "B" (.int cd) U ∧ XT.Arr .byte t V U ∧ Cod cd n f V ∧ ∀ j, j < n → ¬ f j < 0 ∧ ¬ 65535 < f j
theorem Txt.mv {x t : Addr} {V : Cell} {cd : Int32} {n : Nat} {f : Nat → Int32} {U U' : State} (h : Txt x t V cd n f U) (hal : U.vm.Alike U'.vm) (hh : U'.heap = U.heap) : Txt x t V cd n f U' := ⟨h.1.mv hal hh, h.2.1.mv hal hh, h.2.2.1.mv hal hh, h.2.2.2.1.mv hal hh, h.2.2.2.2⟩
namespace Cdr
def yN : MethodName := ⟨"java/lang/String", "coder", "()B"⟩
abbrev yB : ByteArray := jdk_42_method_152_code
theorem d0 : decode yB 0 = .ok (.getstatic 38, 3) := by decide +kernel
theorem d3 : decode yB 3 = .ok (.ifCond (.eq) 10, 3) := by decide +kernel
theorem d6 : decode yB 6 = .ok (.aload_n 0, 1) := by decide +kernel
theorem d7 : decode yB 7 = .ok (.getfield 15, 3) := by decide +kernel
theorem d10 : decode yB 10 = .ok (.goto 4, 3) := by decide +kernel
theorem d14 : decode yB 14 = .ok (.ireturn, 1) := by decide +kernel
def site : List Cond := [.fieldLink "java/lang/String" 38 "java/lang/String" "COMPACT_STRINGS" "Z", .fieldLink "java/lang/String" 15 "java/lang/String" "coder" "B"]
def tab : Cond := tabOf yN yB 1 (some .byte) site
def P (x : Addr) (cd z : Int32) (args : Array Value) (s : State) : Prop := args = #[.ref x] ∧ Has x "java/lang/String" "coder" "B" (.int cd) s ∧ (cd = 0 ∨ cd = 1) ∧ StaticIs s "java/lang/String" "COMPACT_STRINGS" "Z" (.int z) ∧ ¬ z = 0
def E (cd : Int32) (r : Option Value) (s u : State) : Prop := XT.PureE (some (.int cd)) r s u
theorem law (l : Launch) (x : Addr) (cd z : Int32) : Law l yN 1 0 0 0 yB 1 (some .byte) site (P x cd z) (E cd) [] 0 0 := by
  refine Law.of_walk (plainFor_of_name (by decide +kernel)) (by decide +kernel) (by decide +kernel) (by decide) (fun _ _ h => by rw [h.1]; rfl) (fun _ U U' hal hh h => ⟨h.1, h.2.1.mv hal hh, h.2.2.1, h.2.2.2.1.there hal hh, h.2.2.2.2⟩) (fun r U U' V V' h1 hal h2 h => XT.PureE.mv r U U' V V' h1 hal h2 h) ?_
  intro p e s m args below meth c s₁ X0 hexec hbytes hml hret hlk hnm hown hh0 W hP
  obtain ⟨rfl, hx, hc, s1, hz⟩ := hP
  have c1 : Steps p.tables e below (s₁.setTop (entryFrame m #[.ref x] 1)) (s₁.setTop (mkF m 0 #[.val (.ref x)] [])) := entry rfl
  obtain ⟨T2, X2, q2, st2⟩ := X0.sget hexec hown (wk W (.fieldLink "java/lang/String" 38 "java/lang/String" "COMPACT_STRINGS" "Z")) s1 (fun _ _ h => by rw [hh0]; exact h) (g := (mkF m 0 #[.val (.ref x)] [])) rfl (hb hbytes d0)
  have hh2 := q2.trans hh0
  have c3 : Steps p.tables e below (s₁.setTop (entryFrame m #[.ref x] 1)) (T2.setTop (mkF m 7 #[.val (.ref x)] [.ref x])) := (c1.trans (st2 _ (Steps.refl _))).trans (by
    refine XS.ifNo X2.here hexec rfl (hb hbytes d3) rfl (i0_eq_f hz) ?_
    refine XS.aloadN X2.here hexec rfl (hb hbytes d6) rfl rfl ?_
    exact Steps.refl _)
  obtain ⟨T4, X4, q4, st4⟩ := X2.hget hexec hown (wk W (.fieldLink "java/lang/String" 15 "java/lang/String" "coder" "B")) (hx.mv X2.warmed.alike hh2) (g := (mkF m 7 #[.val (.ref x)] [.ref x])) rfl (rest := []) rfl (hb hbytes d7)
  have c5 : Steps p.tables e below (s₁.setTop (entryFrame m #[.ref x] 1)) (T4.setTop (mkF m 14 #[.val (.ref x)] [.int cd])) := (c3.trans (st4 _ (Steps.refl _))).trans (by
    refine XS.goto X4.here hexec rfl (pc0 := 10) rfl (hb hbytes d10) (by decide) rfl ?_
    exact Steps.refl _)
  exact ⟨T4, some (.int cd), _, _, _, X4, rfl, rfl, rfl, (fun h => by cases h), ⟨rfl, q4.trans hh2⟩, fun fs hl => c5.trans (X4.ireturnOut hexec hret (by rcases hc with rfl | rfl <;> rfl) (Or.inr (Or.inr (Or.inl rfl))) (hb hbytes d14) hl)⟩
end Cdr
namespace Len
def yN : MethodName := ⟨"java/lang/String", "length", "()I"⟩
abbrev yB : ByteArray := jdk_42_method_54_code
theorem d0 : decode yB 0 = .ok (.aload_n 0, 1) := by decide +kernel
theorem d1 : decode yB 1 = .ok (.getfield 9, 3) := by decide +kernel
theorem d4 : decode yB 4 = .ok (.arraylength, 1) := by decide +kernel
theorem d5 : decode yB 5 = .ok (.aload_n 0, 1) := by decide +kernel
theorem d6 : decode yB 6 = .ok (.invokevirtual 335, 3) := by decide +kernel
theorem d9 : decode yB 9 = .ok (.ishr, 1) := by decide +kernel
theorem d10 : decode yB 10 = .ok (.ireturn, 1) := by decide +kernel
def site : List Cond := [.fieldLink "java/lang/String" 9 "java/lang/String" "value" "[B", Cdr.tab] ++ virtW "java/lang/String" 335 "java/lang/String" Cdr.yN Cdr.yN
def tab : Cond := tabOf yN yB 1 (some .int) site
def P (x t : Addr) (V : Cell) (cd : Int32) (n : Nat) (f : Nat → Int32) (z : Int32) (args : Array Value) (s : State) : Prop := args = #[.ref x] ∧ Txt x t V cd n f s ∧ StaticIs s "java/lang/String" "COMPACT_STRINGS" "Z" (.int z) ∧ ¬ z = 0
def E (n : Nat) (r : Option Value) (s u : State) : Prop := XT.PureE (some (.int (Int32.ofNat n))) r s u
/-- length() of a String of n chars, in either coding -/
theorem law (l : Launch) (x t : Addr) (V : Cell) (cd : Int32) (n : Nat) (f : Nat → Int32) (z : Int32) : Law l yN 1 0 1 13 yB 1 (some .int) site (P x t V cd n f z) (E n) [] 0 0 := by
  refine Law.of_walk (plainFor_of_name (by decide +kernel)) (by decide +kernel) (by decide +kernel) (by decide) (fun _ _ h => by rw [h.1]; rfl) (fun _ U U' hal hh h => ⟨h.1, h.2.1.mv hal hh, h.2.2.1.there hal hh, h.2.2.2⟩) (fun r U U' V V' h1 hal h2 h => XT.PureE.mv r U U' V V' h1 hal h2 h) ?_
  intro p e s m args below meth c s₁ X0 hexec hbytes hml hret hlk hnm hown hh0 W hP
  obtain ⟨rfl, hx, s1, hz⟩ := hP
  have v31 := hx.2.2.2.1.2.2.2
  have c1 : Steps p.tables e below (s₁.setTop (entryFrame m #[.ref x] 1)) (s₁.setTop (mkF m 1 #[.val (.ref x)] [.ref x])) := Steps.trans (entry rfl) (by
    show Steps p.tables e below (s₁.setTop (mkF m 0 #[.val (.ref x)] [])) _
    refine XS.aloadN X0.here hexec rfl (hb hbytes d0) rfl rfl ?_
    exact Steps.refl _)
  obtain ⟨T2, X2, q2, st2⟩ := X0.hget hexec hown (wk W (.fieldLink "java/lang/String" 9 "java/lang/String" "value" "[B")) (hx.mv X0.warmed.alike hh0).2.1 (g := (mkF m 1 #[.val (.ref x)] [.ref x])) rfl (rest := []) rfl (hb hbytes d1)
  have hh2 := q2.trans hh0
  have hx2 := hx.mv X2.warmed.alike hh2
  have c3 : Steps p.tables e below (s₁.setTop (entryFrame m #[.ref x] 1)) (T2.setTop (mkF m 6 #[.val (.ref x)] [.ref x, .int (Int32.ofNat V.slots.size)])) := (c1.trans (st2 _ (Steps.refl _))).trans (by
    refine X2.alen hexec hx2.2.2.2.1 rfl rfl (hb hbytes d4) ?_
    refine XS.aloadN X2.here hexec rfl (hb hbytes d5) rfl rfl ?_
    exact Steps.refl _)
  obtain ⟨v4, T4, X4, E4, g4⟩ := X2.callV hexec (Cdr.law l x cd z) hown (wks W (virtW "java/lang/String" 335 "java/lang/String" Cdr.yN Cdr.yN)) rfl (by decide) (wk W Cdr.tab) (W := 1) (Nat.le_of_ble_eq_true rfl) (Nat.le_of_ble_eq_true rfl) (Nat.le_refl _) (Nat.le_refl _) (hx2.1.fc X2.warmed.alike) hx2.1.is (g := (mkF m 6 #[.val (.ref x)] [.ref x, .int (Int32.ofNat V.slots.size)])) rfl (by rw [hml]; rfl) c3 (argsL := []) (rest := [.int (Int32.ofNat V.slots.size)]) rfl rfl (by show 2 * 0 + (1 + 0) ≤ _; decide) (hb hbytes d6) (⟨rfl, hx2.2.2.1, hx.2.2.2.2.1.cd, s1.there X2.warmed.alike hh2, hz⟩)
  obtain ⟨rfl, q4⟩ := E4
  have c5 : Steps p.tables e below (s₁.setTop (entryFrame m #[.ref x] 1)) (T4.setTop (mkF m 10 #[.val (.ref x)] [.int (Int32.ofNat V.slots.size >>> (cd &&& 31))])) := Steps.trans g4 (by
    refine ishr X4.here hexec rfl (hb hbytes d9) rfl ?_
    exact Steps.refl _)
  rw [hx.2.2.2.2.1.len v31] at c5
  exact ⟨T4, some (.int (Int32.ofNat n)), _, _, _, X4, rfl, rfl, rfl, (fun h => by cases h), ⟨rfl, q4.trans hh2⟩, fun fs hl => c5.trans (X4.ireturnOut hexec hret rfl (Or.inl rfl) (hb hbytes d10) hl)⟩
theorem pays {l : Launch} {R : Room} {p : Program} {e : Env} {below : List Frame} {s : State} {sargs : Array Value} {len W : Nat} (x t : Addr) (V : Cell) (cd : Int32) (n : Nat) (f : Nat → Int32) (z : Int32) (htab : tab.before sargs s = true) (hfr : 2 ≤ R.frames) (hlo : W + 25 ≤ R.locals) :
    Back l R p e below s sargs yN len W (fun A₁ a₁ => A₁.cells + 0 ≤ R.cells ∧ A₁.slots + 0 ≤ R.slots ∧ P x t V cd n f z a₁ A₁.U) (fun A₁ _ v₁ B₁ => E n v₁ A₁.U B₁.U ∧ B₁.locs = A₁.locs ++ [] ∧ B₁.cells = A₁.cells + 0 ∧ B₁.slots = A₁.slots + 0) :=
  (law l x t V cd n f z).pays htab hfr (by omega)
end Len
namespace IsL
def yN : MethodName := ⟨"java/lang/String", "isLatin1", "()Z"⟩
abbrev yB : ByteArray := jdk_42_method_154_code
theorem d0 : decode yB 0 = .ok (.getstatic 38, 3) := by decide +kernel
theorem d3 : decode yB 3 = .ok (.ifCond (.eq) 14, 3) := by decide +kernel
theorem d6 : decode yB 6 = .ok (.aload_n 0, 1) := by decide +kernel
theorem d7 : decode yB 7 = .ok (.getfield 15, 3) := by decide +kernel
theorem d10 : decode yB 10 = .ok (.ifCond (.ne) 7, 3) := by decide +kernel
theorem d13 : decode yB 13 = .ok (.iconst 1, 1) := by decide +kernel
theorem d14 : decode yB 14 = .ok (.goto 4, 3) := by decide +kernel
theorem d17 : decode yB 17 = .ok (.iconst 0, 1) := by decide +kernel
theorem d18 : decode yB 18 = .ok (.ireturn, 1) := by decide +kernel
def site : List Cond := [.fieldLink "java/lang/String" 38 "java/lang/String" "COMPACT_STRINGS" "Z", .fieldLink "java/lang/String" 15 "java/lang/String" "coder" "B"]
def tab : Cond := tabOf yN yB 1 (some .boolean) site
def P (x : Addr) (cd z : Int32) (args : Array Value) (s : State) : Prop := args = #[.ref x] ∧ Has x "java/lang/String" "coder" "B" (.int cd) s ∧ (cd = 0 ∨ cd = 1) ∧ StaticIs s "java/lang/String" "COMPACT_STRINGS" "Z" (.int z) ∧ ¬ z = 0
def E (cd : Int32) (r : Option Value) (s u : State) : Prop := XT.PureE (some (.int (1 - cd))) r s u
theorem law (l : Launch) (x : Addr) (cd z : Int32) : Law l yN 1 0 0 0 yB 1 (some .boolean) site (P x cd z) (E cd) [] 0 0 := by
  refine Law.of_walk (plainFor_of_name (by decide +kernel)) (by decide +kernel) (by decide +kernel) (by decide) (fun _ _ h => by rw [h.1]; rfl) (fun _ U U' hal hh h => ⟨h.1, h.2.1.mv hal hh, h.2.2.1, h.2.2.2.1.there hal hh, h.2.2.2.2⟩) (fun r U U' V V' h1 hal h2 h => XT.PureE.mv r U U' V V' h1 hal h2 h) ?_
  intro p e s m args below meth c s₁ X0 hexec hbytes hml hret hlk hnm hown hh0 W hP
  obtain ⟨rfl, hx, hc, s1, hz⟩ := hP
  have c1 : Steps p.tables e below (s₁.setTop (entryFrame m #[.ref x] 1)) (s₁.setTop (mkF m 0 #[.val (.ref x)] [])) := entry rfl
  obtain ⟨T2, X2, q2, st2⟩ := X0.sget hexec hown (wk W (.fieldLink "java/lang/String" 38 "java/lang/String" "COMPACT_STRINGS" "Z")) s1 (fun _ _ h => by rw [hh0]; exact h) (g := (mkF m 0 #[.val (.ref x)] [])) rfl (hb hbytes d0)
  have hh2 := q2.trans hh0
  have c3 : Steps p.tables e below (s₁.setTop (entryFrame m #[.ref x] 1)) (T2.setTop (mkF m 7 #[.val (.ref x)] [.ref x])) := (c1.trans (st2 _ (Steps.refl _))).trans (by
    refine XS.ifNo X2.here hexec rfl (hb hbytes d3) rfl (i0_eq_f hz) ?_
    refine XS.aloadN X2.here hexec rfl (hb hbytes d6) rfl rfl ?_
    exact Steps.refl _)
  obtain ⟨T4, X4, q4, st4⟩ := X2.hget hexec hown (wk W (.fieldLink "java/lang/String" 15 "java/lang/String" "coder" "B")) (hx.mv X2.warmed.alike hh2) (g := (mkF m 7 #[.val (.ref x)] [.ref x])) rfl (rest := []) rfl (hb hbytes d7)
  have c5 : Steps p.tables e below (s₁.setTop (entryFrame m #[.ref x] 1)) (T4.setTop (mkF m 10 #[.val (.ref x)] [.int cd])) := c3.trans (st4 _ (Steps.refl _))
  have c6 : Steps p.tables e below (s₁.setTop (entryFrame m #[.ref x] 1)) (T4.setTop (mkF m 18 #[.val (.ref x)] [.int (1 - cd)])) := by
    rcases hc with rfl | rfl
    · exact c5.trans (by
        refine XS.ifNo X4.here hexec rfl (hb hbytes d10) rfl (i0_ne_f rfl) ?_
        refine iconstV X4.here hexec rfl 1 (hb hbytes d13) (by decide) ?_
        refine XS.goto X4.here hexec rfl (pc0 := 14) rfl (hb hbytes d14) (by decide) rfl ?_
        exact Steps.refl _)
    · exact c5.trans (by
        refine XS.ifYes X4.here hexec rfl (pc0 := 10) rfl (hb hbytes d10) rfl (i0_ne_t (by decide)) (by decide) rfl ?_
        refine iconstV X4.here hexec rfl 0 (hb hbytes d17) (by decide) ?_
        exact Steps.refl _)
  exact ⟨T4, some (.int (1 - cd)), _, _, _, X4, rfl, rfl, rfl, (fun h => by cases h), ⟨rfl, q4.trans hh2⟩, fun fs hl => c6.trans (X4.ireturnOut hexec hret (by rcases hc with rfl | rfl <;> rfl) (Or.inr (Or.inl rfl)) (hb hbytes d18) hl)⟩
end IsL
namespace LChA
def yN : MethodName := ⟨"java/lang/StringLatin1", "charAt", "([BI)C"⟩
abbrev yB : ByteArray := jdk_43_method_2_code
theorem d0 : decode yB 0 = .ok (.iload_n 1, 1) := by decide +kernel
theorem d1 : decode yB 1 = .ok (.aload_n 0, 1) := by decide +kernel
theorem d2 : decode yB 2 = .ok (.arraylength, 1) := by decide +kernel
theorem d3 : decode yB 3 = .ok (.invokestatic 9, 3) := by decide +kernel
theorem d6 : decode yB 6 = .ok (.aload_n 0, 1) := by decide +kernel
theorem d7 : decode yB 7 = .ok (.iload_n 1, 1) := by decide +kernel
theorem d8 : decode yB 8 = .ok (.baload, 1) := by decide +kernel
theorem d9 : decode yB 9 = .ok (.sipush 255, 3) := by decide +kernel
theorem d12 : decode yB 12 = .ok (.iand, 1) := by decide +kernel
theorem d13 : decode yB 13 = .ok (.i2c, 1) := by decide +kernel
theorem d14 : decode yB 14 = .ok (.ireturn, 1) := by decide +kernel
def site : List Cond := [JO.Str_checkIndex.tab] ++ staticW "java/lang/StringLatin1" 9 JO.Str_checkIndex.yN
def tab : Cond := tabOf yN yB 2 (some .char) site
def P (t : Addr) (V : Cell) (i : Nat) (u : Int32) (fm : Value) (args : Array Value) (s : State) : Prop := args = #[.ref t, .int (Int32.ofNat i)] ∧ XT.Arr .byte t V s ∧ V.slots[i]? = some (.int u) ∧ (StaticIs s "jdk/internal/util/Preconditions" "SIOOBE_FORMATTER" "Ljava/util/function/BiFunction;" fm ∧ fm.isRef = true)
def E (u : Int32) (r : Option Value) (s w : State) : Prop := XT.PureE (some (.int (chr8 u))) r s w
theorem law (l : Launch) (t : Addr) (V : Cell) (i : Nat) (u : Int32) (fm : Value) : Law l yN 2 2 2 27 yB 2 (some .char) site (P t V i u fm) (E u) [] 0 0 := by
  refine Law.of_walk (plainFor_of_name (by decide +kernel)) (by decide +kernel) (by decide +kernel) (by decide) (fun _ _ h => by rw [h.1]; rfl) (fun _ U U' hal hh h => ⟨h.1, h.2.1.mv hal hh, h.2.2.1, h.2.2.2.1.there hal hh, h.2.2.2.2⟩) (fun r U U' V V' h1 hal h2 h => XT.PureE.mv r U U' V V' h1 hal h2 h) ?_
  intro p e s m args below meth c s₁ X0 hexec hbytes hml hret hlk hnm hown hh0 W hP
  obtain ⟨rfl, hV, hu, s1, rf⟩ := hP
  have v31 := hV.2.2.2
  have hi : i < V.slots.size := (Array.getElem?_eq_some_iff.mp hu).1
  have c1 : Steps p.tables e below (s₁.setTop (entryFrame m #[.ref t, .int (Int32.ofNat i)] 2)) (s₁.setTop (mkF m 0 #[.val (.ref t), .val (.int (Int32.ofNat i))] [])) := entry rfl
  have c2 : Steps p.tables e below (s₁.setTop (entryFrame m #[.ref t, .int (Int32.ofNat i)] 2)) (s₁.setTop (mkF m 3 #[.val (.ref t), .val (.int (Int32.ofNat i))] [.int (Int32.ofNat V.slots.size), .int (Int32.ofNat i)])) := c1.trans (by
    refine XS.iloadN X0.here hexec rfl (hb hbytes d0) rfl ?_
    refine XS.aloadN X0.here hexec rfl (hb hbytes d1) rfl rfl ?_
    refine X0.alen hexec (hV.mv X0.warmed.alike hh0) rfl rfl (hb hbytes d2) ?_
    exact Steps.refl _)
  obtain ⟨v3, T3, X3, E3, g3⟩ := X0.callS hexec (JO.Str_checkIndex.law l (Int32.ofNat i) (Int32.ofNat V.slots.size) fm) hown (wks W (staticW "java/lang/StringLatin1" 9 JO.Str_checkIndex.yN)) (wk W JO.Str_checkIndex.tab) (W := 0) (Nat.le_of_ble_eq_true rfl) (Nat.le_of_ble_eq_true rfl) (Nat.le_refl _) (Nat.le_refl _) (g := (mkF m 3 #[.val (.ref t), .val (.int (Int32.ofNat i))] [.int (Int32.ofNat V.slots.size), .int (Int32.ofNat i)])) rfl (by rw [hml]; rfl) c2 (argsL := [.int (Int32.ofNat i), .int (Int32.ofNat V.slots.size)]) (rest := []) rfl rfl (by show 2 * 0 + 0 ≤ _; decide) (hb hbytes d3) (⟨rfl, rf, s1.there X0.warmed.alike hh0, Int32.ofNat_not_neg (by omega), lt32 v31 hi⟩)
  obtain ⟨rfl, q3⟩ := E3
  have hh3 := q3.trans hh0
  have c4 : Steps p.tables e below (s₁.setTop (entryFrame m #[.ref t, .int (Int32.ofNat i)] 2)) (T3.setTop (mkF m 14 #[.val (.ref t), .val (.int (Int32.ofNat i))] [.int (chr8 u)])) := Steps.trans g3 (by
    refine XS.aloadN X3.here hexec rfl (hb hbytes d6) rfl rfl ?_
    refine XS.iloadN X3.here hexec rfl (hb hbytes d7) rfl ?_
    refine X3.aget hexec (hV.mv X3.warmed.alike hh3) rfl hu rfl rfl (hb hbytes d8) ?_
    refine sipushV X3.here hexec rfl 255 (hb hbytes d9) (by decide) ?_
    refine XS.iand X3.here hexec rfl (hb hbytes d12) rfl ?_
    refine i2c X3.here hexec rfl (hb hbytes d13) rfl ?_
    exact Steps.refl _)
  exact ⟨T3, some (.int (chr8 u)), _, _, _, X3, rfl, rfl, rfl, (fun h => by cases h), ⟨rfl, hh3⟩, fun fs hl => c4.trans (X3.ireturnOut hexec hret (narrow_c _) (Or.inr (Or.inr (Or.inr (Or.inl rfl)))) (hb hbytes d14) hl)⟩
end LChA
end StrChars
namespace StrChars.Road
open Jvm Sem ClassFile Op Lib Jvm.Stand Jvm.Free Jvm.Free.XT
open Jvm.Lib.Cold (StaticIs)
theorem consq {a : Array Value} {s : State} {c : Jvm.Cond} {L : List Jvm.Cond} (h0 : c.before a s = true) (h : ∀ w ∈ L, w.before a s = true) : ∀ w ∈ c :: L, w.before a s = true := fun w hw => (List.mem_cons.mp hw).elim (fun e => e ▸ h0) (h w)
/-- the words of String.length(), either coding -/
abbrev wordsLen : List Jvm.Cond := [.code Len.yN Len.yB 1 (some .int), .initialized ST, .fieldLink ST 9 ST "value" "[B", .fieldLink ST 38 ST "COMPACT_STRINGS" "Z", .fieldLink ST 15 ST "coder" "B", .code Cdr.yN Cdr.yB 1 (some .byte), .methodLink ST 335 Cdr.yN, .declares Cdr.yN, .selects ST Cdr.yN Cdr.yN, .instanceMethod Cdr.yN]
theorem tabLen_of {a : Array Value} {s : State} (h : ∀ w ∈ wordsLen, w.before a s = true) : Len.tab.before a s = true := by
  have hc : Cdr.tab.before a s = true := unparts (wk h (.code Cdr.yN Cdr.yB 1 (some .byte))) (wks h (.initialized Cdr.yN.cls :: Cdr.site))
  have q := consq hc h
  exact unparts (wk q (.code Len.yN Len.yB 1 (some .int))) (wks q (.initialized Len.yN.cls :: Len.site))
theorem movedLen {Z s : State} {a0 args : Array Value} (hZ : Z.Warmed39 s.vm) (hw : ∀ d ∈ wordsLen, d.before a0 Z = true) : ∀ d ∈ wordsLen, d.before args s = true := fun d hd => by
  have q := hw d hd
  have t : ∀ d ∈ wordsLen, d = .arrayClass .byte ∨ (d.onTables && d.keepsFace) = true := by decide +kernel
  rcases t d hd with rfl | t
  · exact RoadKit.mvA hZ q
  · exact RoadKit.mv hZ q t
/-- the bytes of the chars cs, low before high -/
def wideBytes : List Int32 → List Value
  | [] => []
  | c :: cs => .int (lo8 c) :: .int (hi8 c) :: wideBytes cs
theorem wide_lo (d : Value) : ∀ (cs : List Int32) (j : Nat), j < cs.length → (wideBytes cs).getD (2 * j) d = .int (lo8 (cs.getD j 0))
  | [], j, h => absurd h (Nat.not_lt_zero j)
  | c :: cs, 0, _ => rfl
  | c :: cs, j + 1, h => by
    have q := wide_lo d cs j (by simpa using h)
    rw [show 2 * (j + 1) = 2 * j + 1 + 1 from by omega]
    simpa [wideBytes] using q
theorem wide_hi (d : Value) : ∀ (cs : List Int32) (j : Nat), j < cs.length → (wideBytes cs).getD (2 * j + 1) d = .int (hi8 (cs.getD j 0))
  | [], j, h => absurd h (Nat.not_lt_zero j)
  | c :: cs, 0, _ => rfl
  | c :: cs, j + 1, h => by
    have q := wide_hi d cs j (by simpa using h)
    rw [show 2 * (j + 1) + 1 = 2 * j + 1 + 1 + 1 from by omega]
    simpa [wideBytes] using q
theorem low_at (d : Value) (cs : List Int32) (j : Nat) (h : j < cs.length) : (cs.map fun c => Value.int (lo8 c)).getD j d = .int (lo8 (cs.getD j 0)) := by
  simp [List.getD_eq_getElem?_getD, h]
/-- an array of N2 bytes vs codes the chars cs by the coder cd -/
def CodA (cs : List Int32) (cd N2 : Int32) (vs : List Value) : Prop := (cd = 0 ∧ N2 = Int32.ofNat cs.length ∧ vs = (cs.map fun c => Value.int (lo8 c)) ∧ ∀ c ∈ cs, ¬ 255 < c) ∨ (cd = 1 ∧ N2 = Int32.ofNat (2 * cs.length) ∧ vs = wideBytes cs ∧ ∃ c ∈ cs, 255 < c)
theorem CodA.cod {cs : List Int32} {cd N2 : Int32} {vs : List Value} {V : Cell} (h : CodA cs cd N2 vs) (hn : 2 * cs.length < 2 ^ 31) (hs : V.slots.size = N2.toNatClampNeg) (hv : RoadKit.Has V vs (.int 0)) : Cod cd cs.length (fun j => cs.getD j 0) V := by
  rcases h with ⟨rfl, rfl, rfl, h⟩ | ⟨rfl, rfl, rfl, c, hc, hw⟩
  · rw [n32 (by omega)] at hs
    exact Or.inl ⟨rfl, hs, fun j hj => ⟨by rw [hv j (by omega), low_at _ _ _ hj], by
      have e : cs.getD j 0 = cs[j] := by simp [List.getD_eq_getElem?_getD, hj]
      show ¬ 255 < cs.getD j 0
      rw [e]; exact h _ (List.getElem_mem _)⟩⟩
  · rw [n32 (by omega)] at hs
    obtain ⟨j, hj, rfl⟩ := List.getElem_of_mem hc
    exact Or.inr ⟨rfl, hs, fun j hj => ⟨by rw [hv _ (by omega), wide_lo _ _ _ hj], by rw [hv _ (by omega), wide_hi _ _ _ hj]⟩, j, hj, by
      have e : cs.getD j 0 = cs[j] := by simp [List.getD_eq_getElem?_getD, hj]
      show 255 < cs.getD j 0
      rw [e]; exact hw⟩
/-- an object of exactly java/lang/String, its two fields found: as the laws ask it -/
theorem strObj {Z U : State} {a0 : Array Value} {kI : Nat} (wi : (Jvm.Cond.instantiable ST kI).before a0 Z = true) (al : Z.vm.Alike U.vm) {x : Addr} {v0 c0 : Value} (E : RoadKit.Exa Z U.heap x ST) (V : RoadKit.Fld Z U.heap x ST "value" "[B" v0) (C : RoadKit.Fld Z U.heap x ST "coder" "B" c0) :
    ∃ (D : Cell) (fV fC : Field), Blank ST x D U ∧ Found ST "value" "[B" fV U ∧ Found ST "coder" "B" fC U ∧ D.slots[fV.slot]? = some v0 ∧ D.slots[fC.slot]? = some c0 ∧ RoadKit.slotOf Z ST "value" "[B" = fV.slot ∧ RoadKit.slotOf Z ST "coder" "B" = fC.slot := by
  obtain ⟨D, cfV, kV, iV, fV, hD, gV, stV, knV, obV, asV, slV⟩ := V
  obtain ⟨D', cfC, kC, iC, fC, hD', gC, stC, -, -, asC, slC⟩ := C
  cases hD.symm.trans hD'
  obtain ⟨D2, kD, e1, e2, e3, e4, e5⟩ := E
  cases hD.symm.trans e1
  obtain ⟨c2, k2, i1, i2, i3, -⟩ := Cond.instantiable_spec wi
  cases e2.symm.trans i1
  cases e3.symm.trans i2
  obtain ⟨kU, u1, u2⟩ := al.2.2 _ _ e3
  exact ⟨D, fV, fC, ⟨hD, ⟨knV, fun q hq => by rw [hq] at obV; cases obV⟩, by rw [al.findClass]; exact e2, kU, u1, by rw [u2]; exact i3, by rw [u2]; exact e5 i3⟩, ⟨SBG.found_only al ⟨cfV, kV, iV, gV⟩, stV⟩, ⟨SBG.found_only al ⟨cfC, kC, iC, gC⟩, stC⟩, slV, slC, by simp [RoadKit.slotOf, gV], by simp [RoadKit.slotOf, gC]⟩
theorem sta_is {Z U : State} (al : Z.vm.Alike U.vm) {C n d : String} {v : Value} (S : RoadKit.Sta Z U.heap C n d v) : StaticIs U C n d v := by
  obtain ⟨cfS, iS, kS, fS, st, cS, t1, t2, t3, t4, t5, t6, t7⟩ := S
  exact StaticIs.there (s := { Z with heap := U.heap }) ⟨cfS, iS, kS, fS, st, cS, t1, t2, t3, t4, t5, (fun q => by rw [q] at t6; cases t6), t7⟩ al rfl
/-- **length() OF SUCH A STRING** -/
theorem lenW {p : Program} {l : Launch} {e : Env} {R : Room} {s : State} {args : Array Value} {below : List Frame} {len W : Nat} {Z : State} {a0 : Array Value} {h : Heap} (hZ : Z.Warmed39 s.vm) (hw : ∀ d ∈ wordsLen, d.before a0 Z = true) {kI : Nat} (wi : (Jvm.Cond.instantiable ST kI).before a0 Z = true)
    {x t : Addr} {kb : ClassId} {cs : List Int32} {cd N2 z : Int32} {vs : List Value} (E : RoadKit.Exa Z h x ST) (V : RoadKit.Fld Z h x ST "value" "[B" (.ref t)) (C : RoadKit.Fld Z h x ST "coder" "B" (.int cd)) (K : RoadKit.Arv Z h t kb .byte N2 vs (.int 0)) (hc : CodA cs cd N2 vs) (hb : ∀ c ∈ cs, ¬ c < 0 ∧ ¬ (65535 : Int32) < c)
    (S : RoadKit.Sta Z h ST "COMPACT_STRINGS" "Z" (.int z)) (hz : ¬ z = 0) (l2 : cs.length ≤ 4000) (hfr : 2 ≤ R.frames) (hlo : W + 25 ≤ R.locals) :
    Back l R p e below s args (⟨"java/lang/String", "length", "()I"⟩ : MethodName) len W (fun P a => a = #[.ref x] ∧ P.U.heap = h ∧ P.cells + 0 ≤ R.cells ∧ P.slots + 0 ≤ R.slots)
      (fun P _ v B => ∃ L, (v = some (.int (Int32.ofNat cs.length)) ∧ L = [] ∧ B.U.heap = h) ∧ B.locs = P.locs ++ L ∧ B.cells = P.cells + 0 ∧ B.slots = P.slots + 0) := by
  obtain ⟨A, K1, K2, K3, K4, K5, K6⟩ := K
  have hcod := hc.cod (by omega) K3 K5
  intro m meth c P g ig mk a X hg hsize hdg hW hn hp'
  obtain ⟨rfl, rfl, r1, r2⟩ := hp'
  have al : Z.vm.Alike P.U.vm := hZ.alike.trans X.warmed.alike
  obtain ⟨D, fV, fC, hB, F1, F2, g1, g2, -, -⟩ := strObj wi al E V C
  have hx : Txt x t A cd cs.length (fun j => cs.getD j 0) P.U := ⟨⟨_, hB.2.2.1, D, hB.1, rfl, by cases q : D.vm <;> first | rfl | exact absurd q (hB.2.1.2 _)⟩, Has.of hB F1 g1, Has.of hB F2 g2, ⟨K1.1, State.isArrayOf_alike al K1.2.1, K1.2.2, by rcases hcod with ⟨-, q, -⟩ | ⟨-, q, -⟩ <;> omega⟩, hcod, fun j hj => by
    have e : cs.getD j 0 = cs[j] := by simp [List.getD_eq_getElem?_getD, hj]
    show ¬ cs.getD j 0 < 0 ∧ ¬ 65535 < cs.getD j 0
    rw [e]; exact hb _ (List.getElem_mem _)⟩
  obtain ⟨v, B, X', ⟨⟨hv, hh⟩, hl, hk, hs⟩, st⟩ := Len.pays x t A cd cs.length (fun j => cs.getD j 0) z (tabLen_of (movedLen hZ hw)) hfr hlo m meth c P g ig mk _ X hg hsize hdg hW hn ⟨r1, r2, rfl, hx, sta_is al S, hz⟩
  exact ⟨v, B, X', ⟨[], ⟨hv, rfl, hh⟩, hl, hk, hs⟩, st⟩
end StrChars.Road
namespace StrChars
open Jvm Sem ClassFile Op Lib Jvm.Stand Jvm.Free.XT Jvm.Free.ALB Jvm.Free.JM Jvm.Free
open Jvm.Lib.Cold (StaticIs)
/-- what place i of a byte[]'s cell holds -/
def yv (A : Cell) (i : Nat) : Int32 := match A.slots[i]? with | some (.int x) => x | _ => 0
theorem yv_get {a : Addr} {A : Cell} {U : State} (h : XT.Arr .byte a A U) (ht : Typed .byte A) {i : Nat} (hi : i < A.slots.size) : A.slots[i]? = some (.int (yv A i)) := by
  have e := Array.getElem?_eq_getElem hi
  have f := ht i _ e
  unfold yv; rw [e]
  generalize A.slots[i] = v at f
  cases v <;> simp [fits] at f ⊢
/-- the two arrays are equal, place for place -/
def EqC (A B : Cell) : Prop := A.slots.size = B.slots.size ∧ ∀ i, i < A.slots.size → yv A i = yv B i
/-- a boolean that says whether p -/
def Says01 (q : Prop) (r : Option Value) (s u : State) : Prop := ∃ v : Int32, r = some (.int v) ∧ u.heap = s.heap ∧ ((v = 1 ∧ q) ∨ (v = 0 ∧ ¬ q))
theorem Says01.mv {q : Prop} : ∀ r (U U' V V' : State), U'.heap = U.heap → V.vm.Alike V'.vm → V'.heap = V.heap → Says01 q r U V → Says01 q r U' V' :=
  fun r U U' V V' h1 _ h2 ⟨v, a, b, c⟩ => ⟨v, a, by rw [h1, h2]; exact b, c⟩
namespace LEq
def yN : MethodName := ⟨"java/lang/StringLatin1", "equals", "([B[B)Z"⟩
abbrev yB : ByteArray := jdk_43_method_13_code
theorem d0 : decode yB 0 = .ok (.aload_n 0, 1) := by decide +kernel
theorem d1 : decode yB 1 = .ok (.arraylength, 1) := by decide +kernel
theorem d2 : decode yB 2 = .ok (.aload_n 1, 1) := by decide +kernel
theorem d3 : decode yB 3 = .ok (.arraylength, 1) := by decide +kernel
theorem d4 : decode yB 4 = .ok (.if_icmp (.ne) 30, 3) := by decide +kernel
theorem d7 : decode yB 7 = .ok (.iconst 0, 1) := by decide +kernel
theorem d8 : decode yB 8 = .ok (.istore_n 2, 1) := by decide +kernel
theorem d9 : decode yB 9 = .ok (.iload_n 2, 1) := by decide +kernel
theorem d10 : decode yB 10 = .ok (.aload_n 0, 1) := by decide +kernel
theorem d11 : decode yB 11 = .ok (.arraylength, 1) := by decide +kernel
theorem d12 : decode yB 12 = .ok (.if_icmp (.ge) 20, 3) := by decide +kernel
theorem d15 : decode yB 15 = .ok (.aload_n 0, 1) := by decide +kernel
theorem d16 : decode yB 16 = .ok (.iload_n 2, 1) := by decide +kernel
theorem d17 : decode yB 17 = .ok (.baload, 1) := by decide +kernel
theorem d18 : decode yB 18 = .ok (.aload_n 1, 1) := by decide +kernel
theorem d19 : decode yB 19 = .ok (.iload_n 2, 1) := by decide +kernel
theorem d20 : decode yB 20 = .ok (.baload, 1) := by decide +kernel
theorem d21 : decode yB 21 = .ok (.if_icmp (.eq) 5, 3) := by decide +kernel
theorem d24 : decode yB 24 = .ok (.iconst 0, 1) := by decide +kernel
theorem d25 : decode yB 25 = .ok (.ireturn, 1) := by decide +kernel
theorem d26 : decode yB 26 = .ok (.iinc 2 1, 3) := by decide +kernel
theorem d29 : decode yB 29 = .ok (.goto (-20), 3) := by decide +kernel
theorem d32 : decode yB 32 = .ok (.iconst 1, 1) := by decide +kernel
theorem d33 : decode yB 33 = .ok (.ireturn, 1) := by decide +kernel
theorem d34 : decode yB 34 = .ok (.iconst 0, 1) := by decide +kernel
theorem d35 : decode yB 35 = .ok (.ireturn, 1) := by decide +kernel
def site : List Cond := []
def tab : Cond := tabOf yN yB 3 (some .boolean) site
def P (a : Addr) (A : Cell) (b : Addr) (B : Cell) (args : Array Value) (s : State) : Prop := args = #[.ref a, .ref b] ∧ XT.Arr .byte a A s ∧ Typed .byte A ∧ XT.Arr .byte b B s ∧ Typed .byte B
/-- whether two byte[] are equal, place for place -/
theorem law (l : Launch) (a : Addr) (A : Cell) (b : Addr) (B : Cell) : Law l yN 2 2 0 0 yB 3 (some .boolean) site (P a A b B) (Says01 (EqC A B)) [] 0 0 := by
  refine Law.of_walk (plainFor_of_name (by decide +kernel)) (by decide +kernel) (by decide +kernel) (by decide) (fun _ _ h => by rw [h.1]; rfl) (fun _ U U' hal hh h => ⟨h.1, h.2.1.mv hal hh, h.2.2.1, h.2.2.2.1.mv hal hh, h.2.2.2.2⟩) (fun r U U' V V' h1 hal h2 h => Says01.mv r U U' V V' h1 hal h2 h) ?_
  intro p e s m args below meth c s₁ X0 hexec hbytes hml hret hlk hnm hown hh0 W hP
  obtain ⟨rfl, hA, tA, hB, tB⟩ := hP
  have a31 := hA.2.2.2
  have b31 := hB.2.2.2
  have hA0 := hA.mv X0.warmed.alike hh0
  have hB0 := hB.mv X0.warmed.alike hh0
  have c1 : Steps p.tables e below (s₁.setTop (entryFrame m #[.ref a, .ref b] 3)) (s₁.setTop (mkF m 0 #[.val (.ref a), .val (.ref b), .unset] [])) := entry rfl
  have c2 : Steps p.tables e below (s₁.setTop (entryFrame m #[.ref a, .ref b] 3)) (s₁.setTop (mkF m 4 #[.val (.ref a), .val (.ref b), .unset] [.int (Int32.ofNat B.slots.size), .int (Int32.ofNat A.slots.size)])) := c1.trans (by
    refine XS.aloadN X0.here hexec rfl (hb hbytes d0) rfl rfl ?_
    refine X0.alen hexec hA0 rfl rfl (hb hbytes d1) ?_
    refine XS.aloadN X0.here hexec rfl (hb hbytes d2) rfl rfl ?_
    refine X0.alen hexec hB0 rfl rfl (hb hbytes d3) ?_
    exact Steps.refl _)
  by_cases hs : A.slots.size = B.slots.size
  · have c3 : Steps p.tables e below (s₁.setTop (entryFrame m #[.ref a, .ref b] 3)) (s₁.setTop (mkF m 9 #[.val (.ref a), .val (.ref b), .val (.int 0)] [])) := c2.trans (by
      refine XS.icmpNo X0.here hexec rfl (hb hbytes d4) rfl (ii_ne_f (by rw [hs])) ?_
      refine iconstV X0.here hexec rfl 0 (hb hbytes d7) (by decide) ?_
      refine XS.istoreN X0.here hexec rfl (hb hbytes d8) rfl rfl ?_
      exact Steps.refl _)
    have loop : ∀ (r i : Nat), i + r = A.slots.size → (∀ j, j < i → yv A j = yv B j) → Steps p.tables e below (s₁.setTop (entryFrame m #[.ref a, .ref b] 3)) (s₁.setTop (mkF m 9 #[.val (.ref a), .val (.ref b), .val (.int (Int32.ofNat i))] [])) → ∃ (pc : Nat) (Ls : Array Slot) (v : Int32), (pc = 25 ∨ pc = 33) ∧ ((v = 1 ∧ EqC A B) ∨ (v = 0 ∧ ¬ EqC A B)) ∧ Steps p.tables e below (s₁.setTop (entryFrame m #[.ref a, .ref b] 3)) (s₁.setTop (mkF m pc Ls [.int v])) := by
      intro r
      induction r with
      | zero =>
        intro i hi he cl
        exact ⟨33, _, 1, Or.inr rfl, Or.inl ⟨rfl, hs, fun j hj => he j (by omega)⟩, cl.trans (by
          refine XS.iloadN X0.here hexec rfl (hb hbytes d9) rfl ?_
          refine XS.aloadN X0.here hexec rfl (hb hbytes d10) rfl rfl ?_
          refine X0.alen hexec hA0 rfl rfl (hb hbytes d11) ?_
          refine XS.icmpYes X0.here hexec rfl (pc0 := 12) rfl (hb hbytes d12) rfl (ii_ge_t (nlt32 (by omega) (by omega))) (by decide) rfl ?_
          refine iconstV X0.here hexec rfl 1 (hb hbytes d32) (by decide) ?_
          exact Steps.refl _)⟩
      | succ r ih =>
        intro i hi he cl
        have c4 : Steps p.tables e below (s₁.setTop (entryFrame m #[.ref a, .ref b] 3)) (s₁.setTop (mkF m 21 #[.val (.ref a), .val (.ref b), .val (.int (Int32.ofNat i))] [.int (yv B i), .int (yv A i)])) := cl.trans (by
          refine XS.iloadN X0.here hexec rfl (hb hbytes d9) rfl ?_
          refine XS.aloadN X0.here hexec rfl (hb hbytes d10) rfl rfl ?_
          refine X0.alen hexec hA0 rfl rfl (hb hbytes d11) ?_
          refine XS.icmpNo X0.here hexec rfl (hb hbytes d12) rfl (ii_ge_f (lt32 (by omega) (by omega))) ?_
          refine XS.aloadN X0.here hexec rfl (hb hbytes d15) rfl rfl ?_
          refine XS.iloadN X0.here hexec rfl (hb hbytes d16) rfl ?_
          refine X0.aget hexec hA0 rfl (yv_get hA tA (i := i) (by omega)) rfl rfl (hb hbytes d17) ?_
          refine XS.aloadN X0.here hexec rfl (hb hbytes d18) rfl rfl ?_
          refine XS.iloadN X0.here hexec rfl (hb hbytes d19) rfl ?_
          refine X0.aget hexec hB0 rfl (yv_get hB tB (i := i) (by omega)) rfl rfl (hb hbytes d20) ?_
          exact Steps.refl _)
        by_cases hv : yv A i = yv B i
        · have c5 : Steps p.tables e below (s₁.setTop (entryFrame m #[.ref a, .ref b] 3)) (s₁.setTop (mkF m 9 #[.val (.ref a), .val (.ref b), .val (.int (Int32.ofNat i + 1))] [])) := c4.trans (by
            refine XS.icmpYes X0.here hexec rfl (pc0 := 21) rfl (hb hbytes d21) rfl (ii_eq_t hv) (by decide) rfl ?_
            refine iincV X0.here hexec rfl 1 (hb hbytes d26) (by decide) rfl rfl ?_
            refine XS.goto X0.here hexec rfl (pc0 := 29) rfl (hb hbytes d29) (by decide) rfl ?_
            exact Steps.refl _)
          rw [succ32] at c5
          exact ih (i + 1) (by omega) (fun j hj => by
            by_cases e : j = i
            · rw [e]; exact hv
            · exact he j (by omega)) c5
        · exact ⟨25, _, 0, Or.inl rfl, Or.inr ⟨rfl, fun q => hv (q.2 i (by omega))⟩, c4.trans (by
            refine XS.icmpNo X0.here hexec rfl (hb hbytes d21) rfl (ii_eq_f hv) ?_
            refine iconstV X0.here hexec rfl 0 (hb hbytes d24) (by decide) ?_
            exact Steps.refl _)⟩
    obtain ⟨pc, Ls, v, hpc, hv, cz⟩ := loop A.slots.size 0 (by omega) (fun j hj => absurd hj (Nat.not_lt_zero j)) c3
    have nv : narrow .boolean (.int v) = .int v := by rcases hv with ⟨rfl, -⟩ | ⟨rfl, -⟩ <;> rfl
    rcases hpc with rfl | rfl
    · exact ⟨s₁, some (.int v), _, _, _, X0, rfl, rfl, rfl, (fun h => by cases h), ⟨v, rfl, hh0, hv⟩, fun fs hl => cz.trans (X0.ireturnOut hexec hret nv (Or.inr (Or.inl rfl)) (hb hbytes d25) hl)⟩
    · exact ⟨s₁, some (.int v), _, _, _, X0, rfl, rfl, rfl, (fun h => by cases h), ⟨v, rfl, hh0, hv⟩, fun fs hl => cz.trans (X0.ireturnOut hexec hret nv (Or.inr (Or.inl rfl)) (hb hbytes d33) hl)⟩
  · have c3 : Steps p.tables e below (s₁.setTop (entryFrame m #[.ref a, .ref b] 3)) (s₁.setTop (mkF m 35 #[.val (.ref a), .val (.ref b), .unset] [.int 0])) := c2.trans (by
      refine XS.icmpYes X0.here hexec rfl (pc0 := 4) rfl (hb hbytes d4) rfl (ii_ne_t (ne32 a31 b31 hs)) (by decide) rfl ?_
      refine iconstV X0.here hexec rfl 0 (hb hbytes d34) (by decide) ?_
      exact Steps.refl _)
    exact ⟨s₁, some (.int 0), _, _, _, X0, rfl, rfl, rfl, (fun h => by cases h), ⟨0, rfl, hh0, Or.inr ⟨rfl, fun q => hs q.1⟩⟩, fun fs hl => c3.trans (X0.ireturnOut hexec hret rfl (Or.inr (Or.inl rfl)) (hb hbytes d35) hl)⟩
end LEq
theorem Cod.ty {cd : Int32} {n : Nat} {f : Nat → Int32} {V : Cell} (h : Cod cd n f V) : Typed .byte V := fun i v hv => by
  have hi : i < V.slots.size := (Array.getElem?_eq_some_iff.mp hv).1
  rcases h with ⟨-, k1, k2⟩ | ⟨-, k1, k2, -⟩
  · rw [(k2 i (by omega)).1] at hv; cases hv; exact fits_lo8 _
  · rcases Nat.mod_two_eq_zero_or_one i with e | e
    · obtain ⟨j, rfl⟩ : ∃ j, i = 2 * j := ⟨i / 2, by omega⟩
      rw [(k2 j (by omega)).1] at hv; cases hv; exact fits_lo8 _
    · obtain ⟨j, rfl⟩ : ∃ j, i = 2 * j + 1 := ⟨i / 2, by omega⟩
      rw [(k2 j (by omega)).2] at hv; cases hv; exact fits_lo8 _
/-- the same text -/
def SameT (n : Nat) (f : Nat → Int32) (k : Nat) (g : Nat → Int32) : Prop := n = k ∧ ∀ j, j < n → f j = g j
theorem lo8_inj {x y : Int32} (h0 : ¬ x < 0) (h1 : ¬ 255 < x) (k0 : ¬ y < 0) (k1 : ¬ 255 < y) (h : lo8 x = lo8 y) : x = y := by
  rw [← lo8_mask h0 h1, ← lo8_mask k0 k1, h]
/-- arrays coded by one coder are equal just where the texts are -/
theorem Cod.eqv {cd : Int32} {n k : Nat} {f g : Nat → Int32} {V V' : Cell} (h : Cod cd n f V) (h' : Cod cd k g V') (hf : ∀ j, j < n → ¬ f j < 0 ∧ ¬ 65535 < f j) (hg : ∀ j, j < k → ¬ g j < 0 ∧ ¬ 65535 < g j) : EqC V V' ↔ SameT n f k g := by
  have yvv : ∀ {W : Cell} {i : Nat} {x : Int32}, W.slots[i]? = some (.int x) → yv W i = x := fun q => by unfold yv; rw [q]
  rcases h with ⟨rfl, k1, k2⟩ | ⟨rfl, k1, k2, -⟩
  · rcases h' with ⟨-, m1, m2⟩ | ⟨e, -⟩
    · constructor
      · rintro ⟨e1, e2⟩
        refine ⟨by omega, fun j hj => ?_⟩
        have q := e2 j (by omega)
        rw [yvv (k2 j hj).1, yvv (m2 j (by omega)).1] at q
        exact lo8_inj (hf j hj).1 (k2 j hj).2 (hg j (by omega)).1 (m2 j (by omega)).2 q
      · rintro ⟨rfl, e2⟩
        refine ⟨by omega, fun j hj => ?_⟩
        rw [yvv (k2 j (by omega)).1, yvv (m2 j (by omega)).1, e2 j (by omega)]
    · exact absurd e (by decide)
  · rcases h' with ⟨e, -⟩ | ⟨-, m1, m2, -⟩
    · exact absurd e (by decide)
    · constructor
      · rintro ⟨e1, e2⟩
        refine ⟨by omega, fun j hj => ?_⟩
        have q1 := e2 (2 * j) (by omega)
        have q2 := e2 (2 * j + 1) (by omega)
        rw [yvv (k2 j hj).1, yvv (m2 j (by omega)).1] at q1
        rw [yvv (k2 j hj).2, yvv (m2 j (by omega)).2] at q2
        rw [← pair_says (hf j hj).1 (hf j hj).2, ← pair_says (hg j (by omega)).1 (hg j (by omega)).2, q1, q2]
      · rintro ⟨rfl, e2⟩
        refine ⟨by omega, fun i hi => ?_⟩
        rcases Nat.mod_two_eq_zero_or_one i with e | e
        · obtain ⟨j, rfl⟩ : ∃ j, i = 2 * j := ⟨i / 2, by omega⟩
          rw [yvv (k2 j (by omega)).1, yvv (m2 j (by omega)).1, e2 j (by omega)]
        · obtain ⟨j, rfl⟩ : ∃ j, i = 2 * j + 1 := ⟨i / 2, by omega⟩
          rw [yvv (k2 j (by omega)).2, yvv (m2 j (by omega)).2, e2 j (by omega)]
/-- two codings differ: so do the texts -/
theorem Cod.dif {cd cd' : Int32} {n k : Nat} {f g : Nat → Int32} {V V' : Cell} (h : Cod cd n f V) (h' : Cod cd' k g V') (hne : ¬ cd = cd') : ¬ SameT n f k g := by
  rintro ⟨rfl, e⟩
  rcases h with ⟨rfl, -, k2⟩ | ⟨rfl, -, -, j, hj, hw⟩
  · rcases h' with ⟨rfl, -⟩ | ⟨-, -, -, j, hj, hw⟩
    · exact hne rfl
    · exact (k2 j hj).2 (by rw [e j hj]; exact hw)
  · rcases h' with ⟨-, -, m2⟩ | ⟨rfl, -⟩
    · exact (m2 j hj).2 (by rw [← e j hj]; exact hw)
    · exact hne rfl
/-- an object of exactly C is an instance of C -/
theorem cinst {p : Program} {l : Launch} {e : Env} {R : Room} {s : State} {m : MethodId} {args : Array Value} {below : List Frame} {meth : Method} {c : Code} {T : State} {locs : List Loc} {cells slots : Nat} (X : Stand p l e R s m args below meth c T locs cells slots) (hexec : p.tables.exec = Jvm.exec) {own C : String} {index : Nat} (hown : s.vm.findClass own = some m.cls) (hlink : (Cond.classLink own index C).before args s = true) {a : Addr} (hE : Exact C a T)
    {g : JFrame} (hg : g.method = m) {rest : List Value} (hstack : g.stack = .ref a :: rest) (hdg : decode c.code g.pc = .ok (.instanceof index, 3)) :
    ∃ T', Stand p l e R s m args below meth c T' locs cells slots ∧ T'.heap = T.heap ∧ ∀ target, Steps p.tables e below (T'.setTop { g with pc := g.pc + 3, stack := .int 1 :: rest }) target → Steps p.tables e below (T.setTop g) target := by
  obtain ⟨cB, h1, D, h2, h3, h4⟩ := hE
  have h1' : s.vm.findClass C = some cB := by rw [← X.warmed.alike.findClass]; exact h1
  obtain ⟨vm', X', st⟩ := X.instanceofYes hexec hown hlink h2 h4 h1' (by rw [h3]; exact Jvm.Free.SB.assignable_self _ _) hg hstack hdg
  exact ⟨_, X', rfl, st⟩
theorem cself {p : Program} {l : Launch} {e : Env} {R : Room} {s : State} {m : MethodId} {args : Array Value} {below : List Frame} {meth : Method} {c : Code} {T : State} {locs : List Loc} {cells slots : Nat} (X : Stand p l e R s m args below meth c T locs cells slots) (hexec : p.tables.exec = Jvm.exec) {own C : String} {index : Nat} (hown : s.vm.findClass own = some m.cls) (hlink : (Cond.classLink own index C).before args s = true) {a : Addr} (hE : Exact C a T)
    {g : JFrame} (hg : g.method = m) {rest : List Value} (hstack : g.stack = .ref a :: rest) (hdg : decode c.code g.pc = .ok (.checkcast index, 3)) :
    ∃ T', Stand p l e R s m args below meth c T' locs cells slots ∧ T'.heap = T.heap ∧ ∀ target, Steps p.tables e below (T'.setTop { g with pc := g.pc + 3, stack := .ref a :: rest }) target → Steps p.tables e below (T.setTop g) target := by
  obtain ⟨cB, h1, D, h2, h3, h4⟩ := hE
  have h1' : s.vm.findClass C = some cB := by rw [← X.warmed.alike.findClass]; exact h1
  obtain ⟨vm', X', st⟩ := X.checkcastYes hexec hown hlink h2 h4 h1' (by rw [h3]; exact Jvm.Free.SB.assignable_self _ _) hg hstack hdg
  exact ⟨_, X', rfl, fun t h => st t (by rw [← hstack] at h; exact h)⟩
namespace SEq
def yN : MethodName := ⟨"java/lang/String", "equals", "(Ljava/lang/Object;)Z"⟩
abbrev yB : ByteArray := jdk_42_method_66_code
theorem d0 : decode yB 0 = .ok (.aload_n 0, 1) := by decide +kernel
theorem d1 : decode yB 1 = .ok (.aload_n 1, 1) := by decide +kernel
theorem d2 : decode yB 2 = .ok (.if_acmp (.ne) 5, 3) := by decide +kernel
theorem d5 : decode yB 5 = .ok (.iconst 1, 1) := by decide +kernel
theorem d6 : decode yB 6 = .ok (.ireturn, 1) := by decide +kernel
theorem d7 : decode yB 7 = .ok (.aload_n 1, 1) := by decide +kernel
theorem d8 : decode yB 8 = .ok (.instanceof 10, 3) := by decide +kernel
theorem d11 : decode yB 11 = .ok (.ifCond (.eq) 43, 3) := by decide +kernel
theorem d14 : decode yB 14 = .ok (.aload_n 1, 1) := by decide +kernel
theorem d15 : decode yB 15 = .ok (.checkcast 10, 3) := by decide +kernel
theorem d18 : decode yB 18 = .ok (.astore_n 2, 1) := by decide +kernel
theorem d19 : decode yB 19 = .ok (.getstatic 38, 3) := by decide +kernel
theorem d22 : decode yB 22 = .ok (.ifCond (.eq) 14, 3) := by decide +kernel
theorem d25 : decode yB 25 = .ok (.aload_n 0, 1) := by decide +kernel
theorem d26 : decode yB 26 = .ok (.getfield 15, 3) := by decide +kernel
theorem d29 : decode yB 29 = .ok (.aload_n 2, 1) := by decide +kernel
theorem d30 : decode yB 30 = .ok (.getfield 15, 3) := by decide +kernel
theorem d33 : decode yB 33 = .ok (.if_icmp (.ne) 21, 3) := by decide +kernel
theorem d36 : decode yB 36 = .ok (.aload_n 0, 1) := by decide +kernel
theorem d37 : decode yB 37 = .ok (.getfield 9, 3) := by decide +kernel
theorem d40 : decode yB 40 = .ok (.aload_n 2, 1) := by decide +kernel
theorem d41 : decode yB 41 = .ok (.getfield 9, 3) := by decide +kernel
theorem d44 : decode yB 44 = .ok (.invokestatic 541, 3) := by decide +kernel
theorem d47 : decode yB 47 = .ok (.ifCond (.eq) 7, 3) := by decide +kernel
theorem d50 : decode yB 50 = .ok (.iconst 1, 1) := by decide +kernel
theorem d51 : decode yB 51 = .ok (.goto 4, 3) := by decide +kernel
theorem d54 : decode yB 54 = .ok (.iconst 0, 1) := by decide +kernel
theorem d55 : decode yB 55 = .ok (.ireturn, 1) := by decide +kernel
def site : List Cond := [.classLink "java/lang/String" 10 "java/lang/String", .fieldLink "java/lang/String" 38 "java/lang/String" "COMPACT_STRINGS" "Z", .fieldLink "java/lang/String" 15 "java/lang/String" "coder" "B", .fieldLink "java/lang/String" 9 "java/lang/String" "value" "[B", LEq.tab] ++ staticW "java/lang/String" 541 LEq.yN
def tab : Cond := tabOf yN yB 3 (some .boolean) site
def P (x t : Addr) (V : Cell) (cd : Int32) (n : Nat) (f : Nat → Int32) (y t' : Addr) (V' : Cell) (cd' : Int32) (k : Nat) (g : Nat → Int32) (z : Int32) (args : Array Value) (s : State) : Prop := args = #[.ref x, .ref y] ∧ Txt x t V cd n f s ∧ Txt y t' V' cd' k g s ∧ StaticIs s "java/lang/String" "COMPACT_STRINGS" "Z" (.int z) ∧ ¬ z = 0
/-- equals(Object) of two Strings: whether the texts are the same -/
theorem law (l : Launch) (x t : Addr) (V : Cell) (cd : Int32) (n : Nat) (f : Nat → Int32) (y t' : Addr) (V' : Cell) (cd' : Int32) (k : Nat) (g : Nat → Int32) (z : Int32) : Law l yN 2 1 1 14 yB 3 (some .boolean) site (P x t V cd n f y t' V' cd' k g z) (Says01 (SameT n f k g)) [] 0 0 := by
  refine Law.of_walk (plainFor_of_name (by decide +kernel)) (by decide +kernel) (by decide +kernel) (by decide) (fun _ _ h => by rw [h.1]; rfl) (fun _ U U' hal hh h => ⟨h.1, h.2.1.mv hal hh, h.2.2.1.mv hal hh, h.2.2.2.1.there hal hh, h.2.2.2.2⟩) (fun r U U' V V' h1 hal h2 h => Says01.mv r U U' V V' h1 hal h2 h) ?_
  intro p e s m args below meth c s₁ X0 hexec hbytes hml hret hlk hnm hown hh0 W hP
  obtain ⟨rfl, hx, hy, s1, hz⟩ := hP
  have c1 : Steps p.tables e below (s₁.setTop (entryFrame m #[.ref x, .ref y] 3)) (s₁.setTop (mkF m 2 #[.val (.ref x), .val (.ref y), .unset] [.ref y, .ref x])) := Steps.trans (entry rfl) (by
    show Steps p.tables e below (s₁.setTop (mkF m 0 #[.val (.ref x), .val (.ref y), .unset] [])) _
    refine XS.aloadN X0.here hexec rfl (hb hbytes d0) rfl rfl ?_
    refine XS.aloadN X0.here hexec rfl (hb hbytes d1) rfl rfl ?_
    exact Steps.refl _)
  by_cases hxy : x = y
  · have c2 : Steps p.tables e below (s₁.setTop (entryFrame m #[.ref x, .ref y] 3)) (s₁.setTop (mkF m 6 #[.val (.ref x), .val (.ref y), .unset] [.int 1])) := c1.trans (by
      refine acmpNo X0.here hexec rfl (hb hbytes d2) rfl rfl rfl (by simp [acmp, hxy]) ?_
      refine iconstV X0.here hexec rfl 1 (hb hbytes d5) (by decide) ?_
      exact Steps.refl _)
    subst hxy
    have ec : cd = cd' := by
      obtain ⟨D, fd, a1, a2, a3⟩ := hx.2.2.1
      obtain ⟨D', fd', b1, b2, b3⟩ := hy.2.2.1
      cases a1.symm.trans b1
      obtain ⟨q1, q2, q3, q4⟩ := a2.1
      obtain ⟨r1, r2, r3, r4⟩ := b2.1
      cases q4.symm.trans r4
      cases a3.symm.trans b3; rfl
    have et : t = t' := by
      obtain ⟨D, fd, a1, a2, a3⟩ := hx.2.1
      obtain ⟨D', fd', b1, b2, b3⟩ := hy.2.1
      cases a1.symm.trans b1
      obtain ⟨q1, q2, q3, q4⟩ := a2.1
      obtain ⟨r1, r2, r3, r4⟩ := b2.1
      cases q4.symm.trans r4
      cases a3.symm.trans b3; rfl
    subst ec et
    have ev : V = V' := by cases hx.2.2.2.1.1.symm.trans hy.2.2.2.1.1; rfl
    subst ev
    have hs : SameT n f k g := (Cod.eqv hx.2.2.2.2.1 hy.2.2.2.2.1 hx.2.2.2.2.2 hy.2.2.2.2.2).mp ⟨rfl, fun _ _ => rfl⟩
    exact ⟨s₁, some (.int 1), _, _, _, X0, rfl, rfl, rfl, (fun h => by cases h), ⟨1, rfl, hh0, Or.inl ⟨rfl, hs⟩⟩, fun fs hl => c2.trans (X0.ireturnOut hexec hret rfl (Or.inr (Or.inl rfl)) (hb hbytes d6) hl)⟩
  · have c2 : Steps p.tables e below (s₁.setTop (entryFrame m #[.ref x, .ref y] 3)) (s₁.setTop (mkF m 8 #[.val (.ref x), .val (.ref y), .unset] [.ref y])) := c1.trans (by
      refine acmpYes X0.here hexec rfl (pc0 := 2) rfl (hb hbytes d2) rfl rfl rfl (by simp [acmp, hxy]) (by decide) rfl ?_
      refine XS.aloadN X0.here hexec rfl (hb hbytes d7) rfl rfl ?_
      exact Steps.refl _)
    obtain ⟨T3, X3, q3, st3⟩ := cinst X0 hexec hown (wk W (.classLink "java/lang/String" 10 "java/lang/String")) (hy.mv X0.warmed.alike hh0).1 (g := (mkF m 8 #[.val (.ref x), .val (.ref y), .unset] [.ref y])) rfl (rest := []) rfl (hb hbytes d8)
    have hh3 := q3.trans hh0
    have c4 : Steps p.tables e below (s₁.setTop (entryFrame m #[.ref x, .ref y] 3)) (T3.setTop (mkF m 15 #[.val (.ref x), .val (.ref y), .unset] [.ref y])) := (c2.trans (st3 _ (Steps.refl _))).trans (by
      refine XS.ifNo X3.here hexec rfl (hb hbytes d11) rfl (i0_eq_f (by decide)) ?_
      refine XS.aloadN X3.here hexec rfl (hb hbytes d14) rfl rfl ?_
      exact Steps.refl _)
    obtain ⟨T5, X5, q5, st5⟩ := cself X3 hexec hown (wk W (.classLink "java/lang/String" 10 "java/lang/String")) (hy.mv X3.warmed.alike hh3).1 (g := (mkF m 15 #[.val (.ref x), .val (.ref y), .unset] [.ref y])) rfl (rest := []) rfl (hb hbytes d15)
    have hh5 := q5.trans hh3
    have c6 : Steps p.tables e below (s₁.setTop (entryFrame m #[.ref x, .ref y] 3)) (T5.setTop (mkF m 19 #[.val (.ref x), .val (.ref y), .val (.ref y)] [])) := (c4.trans (st5 _ (Steps.refl _))).trans (by
      refine XS.astoreN X5.here hexec rfl (hb hbytes d18) rfl rfl rfl ?_
      exact Steps.refl _)
    obtain ⟨T7, X7, q7, st7⟩ := X5.sget hexec hown (wk W (.fieldLink "java/lang/String" 38 "java/lang/String" "COMPACT_STRINGS" "Z")) s1 (fun _ _ h => by rw [hh5]; exact h) (g := (mkF m 19 #[.val (.ref x), .val (.ref y), .val (.ref y)] [])) rfl (hb hbytes d19)
    have hh7 := q7.trans hh5
    have c8 : Steps p.tables e below (s₁.setTop (entryFrame m #[.ref x, .ref y] 3)) (T7.setTop (mkF m 26 #[.val (.ref x), .val (.ref y), .val (.ref y)] [.ref x])) := (c6.trans (st7 _ (Steps.refl _))).trans (by
      refine XS.ifNo X7.here hexec rfl (hb hbytes d22) rfl (i0_eq_f hz) ?_
      refine XS.aloadN X7.here hexec rfl (hb hbytes d25) rfl rfl ?_
      exact Steps.refl _)
    obtain ⟨T9, X9, q9, st9⟩ := X7.hget hexec hown (wk W (.fieldLink "java/lang/String" 15 "java/lang/String" "coder" "B")) (hx.mv X7.warmed.alike hh7).2.2.1 (g := (mkF m 26 #[.val (.ref x), .val (.ref y), .val (.ref y)] [.ref x])) rfl (rest := []) rfl (hb hbytes d26)
    have hh9 := q9.trans hh7
    have c10 : Steps p.tables e below (s₁.setTop (entryFrame m #[.ref x, .ref y] 3)) (T9.setTop (mkF m 30 #[.val (.ref x), .val (.ref y), .val (.ref y)] [.ref y, .int cd])) := (c8.trans (st9 _ (Steps.refl _))).trans (by
      refine XS.aloadN X9.here hexec rfl (hb hbytes d29) rfl rfl ?_
      exact Steps.refl _)
    obtain ⟨T11, X11, q11, st11⟩ := X9.hget hexec hown (wk W (.fieldLink "java/lang/String" 15 "java/lang/String" "coder" "B")) (hy.mv X9.warmed.alike hh9).2.2.1 (g := (mkF m 30 #[.val (.ref x), .val (.ref y), .val (.ref y)] [.ref y, .int cd])) rfl (rest := [.int cd]) rfl (hb hbytes d30)
    have hh11 := q11.trans hh9
    have c12 : Steps p.tables e below (s₁.setTop (entryFrame m #[.ref x, .ref y] 3)) (T11.setTop (mkF m 33 #[.val (.ref x), .val (.ref y), .val (.ref y)] [.int cd', .int cd])) := c10.trans (st11 _ (Steps.refl _))
    by_cases hcd : cd = cd'
    · subst hcd
      have c13 : Steps p.tables e below (s₁.setTop (entryFrame m #[.ref x, .ref y] 3)) (T11.setTop (mkF m 37 #[.val (.ref x), .val (.ref y), .val (.ref y)] [.ref x])) := c12.trans (by
        refine XS.icmpNo X11.here hexec rfl (hb hbytes d33) rfl (ii_ne_f rfl) ?_
        refine XS.aloadN X11.here hexec rfl (hb hbytes d36) rfl rfl ?_
        exact Steps.refl _)
      obtain ⟨T14, X14, q14, st14⟩ := X11.hget hexec hown (wk W (.fieldLink "java/lang/String" 9 "java/lang/String" "value" "[B")) (hx.mv X11.warmed.alike hh11).2.1 (g := (mkF m 37 #[.val (.ref x), .val (.ref y), .val (.ref y)] [.ref x])) rfl (rest := []) rfl (hb hbytes d37)
      have hh14 := q14.trans hh11
      have c15 : Steps p.tables e below (s₁.setTop (entryFrame m #[.ref x, .ref y] 3)) (T14.setTop (mkF m 41 #[.val (.ref x), .val (.ref y), .val (.ref y)] [.ref y, .ref t])) := (c13.trans (st14 _ (Steps.refl _))).trans (by
        refine XS.aloadN X14.here hexec rfl (hb hbytes d40) rfl rfl ?_
        exact Steps.refl _)
      obtain ⟨T16, X16, q16, st16⟩ := X14.hget hexec hown (wk W (.fieldLink "java/lang/String" 9 "java/lang/String" "value" "[B")) (hy.mv X14.warmed.alike hh14).2.1 (g := (mkF m 41 #[.val (.ref x), .val (.ref y), .val (.ref y)] [.ref y, .ref t])) rfl (rest := [.ref t]) rfl (hb hbytes d41)
      have hh16 := q16.trans hh14
      have c17 : Steps p.tables e below (s₁.setTop (entryFrame m #[.ref x, .ref y] 3)) (T16.setTop (mkF m 44 #[.val (.ref x), .val (.ref y), .val (.ref y)] [.ref t', .ref t])) := c15.trans (st16 _ (Steps.refl _))
      obtain ⟨v18, T18, X18, E18, g18⟩ := X16.callS hexec (LEq.law l t V t' V') hown (wks W (staticW "java/lang/String" 541 LEq.yN)) (wk W LEq.tab) (W := 0) (Nat.le_of_ble_eq_true rfl) (Nat.le_of_ble_eq_true rfl) (Nat.le_refl _) (Nat.le_refl _) (g := (mkF m 44 #[.val (.ref x), .val (.ref y), .val (.ref y)] [.ref t', .ref t])) rfl (by rw [hml]; rfl) c17 (argsL := [.ref t, .ref t']) (rest := []) rfl rfl (by show 2 * 0 + 0 ≤ _; decide) (hb hbytes d44) (⟨rfl, hx.2.2.2.1.mv X16.warmed.alike hh16, hx.2.2.2.2.1.ty, hy.2.2.2.1.mv X16.warmed.alike hh16, hy.2.2.2.2.1.ty⟩)
      obtain ⟨v, rfl, q18, hv⟩ := E18
      have iff := Cod.eqv hx.2.2.2.2.1 hy.2.2.2.2.1 hx.2.2.2.2.2 hy.2.2.2.2.2
      rcases hv with ⟨rfl, he⟩ | ⟨rfl, he⟩
      · have c19 : Steps p.tables e below (s₁.setTop (entryFrame m #[.ref x, .ref y] 3)) (T18.setTop (mkF m 55 #[.val (.ref x), .val (.ref y), .val (.ref y)] [.int 1])) := Steps.trans g18 (by
          refine XS.ifNo X18.here hexec rfl (hb hbytes d47) rfl (i0_eq_f (by decide)) ?_
          refine iconstV X18.here hexec rfl 1 (hb hbytes d50) (by decide) ?_
          refine XS.goto X18.here hexec rfl (pc0 := 51) rfl (hb hbytes d51) (by decide) rfl ?_
          exact Steps.refl _)
        exact ⟨T18, some (.int 1), _, _, _, X18, rfl, rfl, rfl, (fun h => by cases h), ⟨1, rfl, q18.trans hh16, Or.inl ⟨rfl, iff.mp he⟩⟩, fun fs hl => c19.trans (X18.ireturnOut hexec hret rfl (Or.inr (Or.inl rfl)) (hb hbytes d55) hl)⟩
      · have c19 : Steps p.tables e below (s₁.setTop (entryFrame m #[.ref x, .ref y] 3)) (T18.setTop (mkF m 55 #[.val (.ref x), .val (.ref y), .val (.ref y)] [.int 0])) := Steps.trans g18 (by
          refine XS.ifYes X18.here hexec rfl (pc0 := 47) rfl (hb hbytes d47) rfl (i0_eq_t rfl) (by decide) rfl ?_
          refine iconstV X18.here hexec rfl 0 (hb hbytes d54) (by decide) ?_
          exact Steps.refl _)
        exact ⟨T18, some (.int 0), _, _, _, X18, rfl, rfl, rfl, (fun h => by cases h), ⟨0, rfl, q18.trans hh16, Or.inr ⟨rfl, fun q => he (iff.mpr q)⟩⟩, fun fs hl => c19.trans (X18.ireturnOut hexec hret rfl (Or.inr (Or.inl rfl)) (hb hbytes d55) hl)⟩
    · have c13 : Steps p.tables e below (s₁.setTop (entryFrame m #[.ref x, .ref y] 3)) (T11.setTop (mkF m 55 #[.val (.ref x), .val (.ref y), .val (.ref y)] [.int 0])) := c12.trans (by
        refine XS.icmpYes X11.here hexec rfl (pc0 := 33) rfl (hb hbytes d33) rfl (ii_ne_t hcd) (by decide) rfl ?_
        refine iconstV X11.here hexec rfl 0 (hb hbytes d54) (by decide) ?_
        exact Steps.refl _)
      exact ⟨T11, some (.int 0), _, _, _, X11, rfl, rfl, rfl, (fun h => by cases h), ⟨0, rfl, hh11, Or.inr ⟨rfl, Cod.dif hx.2.2.2.2.1 hy.2.2.2.2.1 hcd⟩⟩, fun fs hl => c13.trans (X11.ireturnOut hexec hret rfl (Or.inr (Or.inl rfl)) (hb hbytes d55) hl)⟩
theorem pays {l : Launch} {R : Room} {p : Program} {e : Env} {below : List Frame} {s : State} {sargs : Array Value} {len W : Nat} (x t : Addr) (V : Cell) (cd : Int32) (n : Nat) (f : Nat → Int32) (y t' : Addr) (V' : Cell) (cd' : Int32) (k : Nat) (g : Nat → Int32) (z : Int32) (htab : tab.before sargs s = true) (hfr : 2 ≤ R.frames) (hlo : W + 28 ≤ R.locals) :
    Back l R p e below s sargs yN len W (fun A₁ a₁ => A₁.cells + 0 ≤ R.cells ∧ A₁.slots + 0 ≤ R.slots ∧ P x t V cd n f y t' V' cd' k g z a₁ A₁.U) (fun A₁ _ v₁ B₁ => Says01 (SameT n f k g) v₁ A₁.U B₁.U ∧ B₁.locs = A₁.locs ++ [] ∧ B₁.cells = A₁.cells + 0 ∧ B₁.slots = A₁.slots + 0) :=
  (law l x t V cd n f y t' V' cd' k g z).pays htab hfr (by omega)
end SEq
end StrChars
namespace StrChars.Road
open Jvm Sem ClassFile Op Lib Jvm.Stand Jvm.Free Jvm.Free.XT
open Jvm.Lib.Cold (StaticIs)
/-- the words of String.equals(Object) -/
abbrev wordsEq : List Jvm.Cond := [.code SEq.yN SEq.yB 3 (some .boolean), .initialized ST, .classLink ST 10 ST, .fieldLink ST 38 ST "COMPACT_STRINGS" "Z", .fieldLink ST 15 ST "coder" "B", .fieldLink ST 9 ST "value" "[B", .methodLink ST 541 LEq.yN, .static LEq.yN, .code LEq.yN LEq.yB 3 (some .boolean), .initialized "java/lang/StringLatin1"]
theorem tabEq_of {a : Array Value} {s : State} (h : ∀ w ∈ wordsEq, w.before a s = true) : SEq.tab.before a s = true := by
  have hl : LEq.tab.before a s = true := unparts (wk h (.code LEq.yN LEq.yB 3 (some .boolean))) (wks h (.initialized LEq.yN.cls :: LEq.site))
  have q := consq hl h
  exact unparts (wk q (.code SEq.yN SEq.yB 3 (some .boolean))) (wks q (.initialized SEq.yN.cls :: SEq.site))
theorem movedEq {Z s : State} {a0 args : Array Value} (hZ : Z.Warmed39 s.vm) (hw : ∀ d ∈ wordsEq, d.before a0 Z = true) : ∀ d ∈ wordsEq, d.before args s = true := fun d hd => by
  have t : ∀ d ∈ wordsEq, (d.onTables && d.keepsFace) = true := by decide +kernel
  exact RoadKit.mv hZ (hw d hd) (t d hd)
/-- the road's facts of a String, as the laws ask it -/
theorem txt_of {Z U : State} {a0 : Array Value} {kI : Nat} (wi : (Jvm.Cond.instantiable ST kI).before a0 Z = true) (al : Z.vm.Alike U.vm) {x t : Addr} {kb : ClassId} {cs : List Int32} {cd N2 : Int32} {vs : List Value} (E : RoadKit.Exa Z U.heap x ST) (V : RoadKit.Fld Z U.heap x ST "value" "[B" (.ref t)) (C : RoadKit.Fld Z U.heap x ST "coder" "B" (.int cd)) (K : RoadKit.Arv Z U.heap t kb .byte N2 vs (.int 0)) (hc : CodA cs cd N2 vs) (hb : ∀ c ∈ cs, ¬ c < 0 ∧ ¬ (65535 : Int32) < c) (l2 : cs.length ≤ 4000) :
    ∃ A, Txt x t A cd cs.length (fun j => cs.getD j 0) U := by
  obtain ⟨A, K1, K2, K3, K4, K5, K6⟩ := K
  have hcod := hc.cod (by omega) K3 K5
  obtain ⟨D, fV, fC, hB, F1, F2, g1, g2, -, -⟩ := strObj wi al E V C
  exact ⟨A, ⟨_, hB.2.2.1, D, hB.1, rfl, by cases q : D.vm <;> first | rfl | exact absurd q (hB.2.1.2 _)⟩, Has.of hB F1 g1, Has.of hB F2 g2, ⟨K1.1, State.isArrayOf_alike al K1.2.1, K1.2.2, by rcases hcod with ⟨-, q, -⟩ | ⟨-, q, -⟩ <;> omega⟩, hcod, fun j hj => by
    have e : cs.getD j 0 = cs[j] := by simp [List.getD_eq_getElem?_getD, hj]
    show ¬ cs.getD j 0 < 0 ∧ ¬ 65535 < cs.getD j 0
    rw [e]; exact hb _ (List.getElem_mem _)⟩
theorem same_list (cs ds : List Int32) : SameT cs.length (fun j => cs.getD j 0) ds.length (fun j => ds.getD j 0) ↔ cs = ds := by
  constructor
  · rintro ⟨e, q⟩
    refine List.ext_getElem e fun j h1 h2 => ?_
    have := q j h1
    simpa [List.getD_eq_getElem?_getD, h1, h2] using this
  · rintro rfl
    exact ⟨rfl, fun _ _ => rfl⟩
/-- **equals(Object) OF TWO SUCH STRINGS**: 1 just where the chars are the same -/
theorem eqW {p : Program} {l : Launch} {e : Env} {R : Room} {s : State} {args : Array Value} {below : List Frame} {len W : Nat} {Z : State} {a0 : Array Value} {h : Heap} (hZ : Z.Warmed39 s.vm) (hw : ∀ d ∈ wordsEq, d.before a0 Z = true) {kI : Nat} (wi : (Jvm.Cond.instantiable ST kI).before a0 Z = true)
    {x t : Addr} {kb : ClassId} {cs : List Int32} {cd N2 : Int32} {vs : List Value} (E : RoadKit.Exa Z h x ST) (V : RoadKit.Fld Z h x ST "value" "[B" (.ref t)) (C : RoadKit.Fld Z h x ST "coder" "B" (.int cd)) (K : RoadKit.Arv Z h t kb .byte N2 vs (.int 0)) (hc : CodA cs cd N2 vs) (hb : ∀ c ∈ cs, ¬ c < 0 ∧ ¬ (65535 : Int32) < c) (l2 : cs.length ≤ 4000)
    {y t' : Addr} {kb' : ClassId} {ds : List Int32} {cd' N2' : Int32} {vs' : List Value} (E' : RoadKit.Exa Z h y ST) (V' : RoadKit.Fld Z h y ST "value" "[B" (.ref t')) (C' : RoadKit.Fld Z h y ST "coder" "B" (.int cd')) (K' : RoadKit.Arv Z h t' kb' .byte N2' vs' (.int 0)) (hc' : CodA ds cd' N2' vs') (hb' : ∀ c ∈ ds, ¬ c < 0 ∧ ¬ (65535 : Int32) < c) (l2' : ds.length ≤ 4000)
    {z : Int32} (S : RoadKit.Sta Z h ST "COMPACT_STRINGS" "Z" (.int z)) (hz : ¬ z = 0) (hfr : 2 ≤ R.frames) (hlo : W + 28 ≤ R.locals) :
    Back l R p e below s args (⟨"java/lang/String", "equals", "(Ljava/lang/Object;)Z"⟩ : MethodName) len W (fun P a => a = #[.ref x, .ref y] ∧ P.U.heap = h ∧ P.cells + 0 ≤ R.cells ∧ P.slots + 0 ≤ R.slots)
      (fun P _ v B => ∃ L, (((v = some (.int 1) ∧ cs = ds) ∨ (v = some (.int 0) ∧ ¬ cs = ds)) ∧ L = [] ∧ B.U.heap = h) ∧ B.locs = P.locs ++ L ∧ B.cells = P.cells + 0 ∧ B.slots = P.slots + 0) := by
  intro m meth c P g ig mk a X hg hsize hdg hW hn hp'
  obtain ⟨rfl, rfl, r1, r2⟩ := hp'
  have al : Z.vm.Alike P.U.vm := hZ.alike.trans X.warmed.alike
  obtain ⟨A, hx⟩ := txt_of wi al E V C K hc hb l2
  obtain ⟨A', hy⟩ := txt_of wi al E' V' C' K' hc' hb' l2'
  obtain ⟨v, B, X', ⟨⟨w, hv, hh, hq⟩, hl, hk, hs⟩, st⟩ := SEq.pays x t A cd cs.length (fun j => cs.getD j 0) y t' A' cd' ds.length (fun j => ds.getD j 0) z (tabEq_of (movedEq hZ hw)) hfr hlo m meth c P g ig mk _ X hg hsize hdg hW hn ⟨r1, r2, rfl, hx, hy, sta_is al S, hz⟩
  refine ⟨v, B, X', ⟨[], ⟨?_, rfl, hh⟩, hl, hk, hs⟩, st⟩
  rcases hq with ⟨rfl, q⟩ | ⟨rfl, q⟩
  · exact Or.inl ⟨hv, (same_list cs ds).mp q⟩
  · exact Or.inr ⟨hv, fun e => q ((same_list cs ds).mpr e)⟩
end StrChars.Road
namespace StrChars
open Jvm Sem ClassFile Op Lib Jvm.Stand Jvm.Free.XT Jvm.Free.ALB Jvm.Free.JM Jvm.Free
open Jvm.Lib.Cold (StaticIs)
namespace ChN
def yN : MethodName := ⟨"java/lang/String", "charAt", "(I)C"⟩
abbrev yB : ByteArray := jdk_42_method_56_code
theorem d0 : decode yB 0 = .ok (.aload_n 0, 1) := by decide +kernel
theorem d1 : decode yB 1 = .ok (.invokevirtual 492, 3) := by decide +kernel
theorem d4 : decode yB 4 = .ok (.ifCond (.eq) 12, 3) := by decide +kernel
theorem d7 : decode yB 7 = .ok (.aload_n 0, 1) := by decide +kernel
theorem d8 : decode yB 8 = .ok (.getfield 9, 3) := by decide +kernel
theorem d11 : decode yB 11 = .ok (.iload_n 1, 1) := by decide +kernel
theorem d12 : decode yB 12 = .ok (.invokestatic 495, 3) := by decide +kernel
theorem d15 : decode yB 15 = .ok (.ireturn, 1) := by decide +kernel
def site : List Cond := [.fieldLink "java/lang/String" 9 "java/lang/String" "value" "[B", IsL.tab, LChA.tab] ++ virtW "java/lang/String" 492 "java/lang/String" IsL.yN IsL.yN ++ staticW "java/lang/String" 495 LChA.yN
def tab : Cond := tabOf yN yB 2 (some .char) site
def P (x t : Addr) (V : Cell) (n : Nat) (f : Nat → Int32) (z : Int32) (fm : Value) (i : Nat) (args : Array Value) (s : State) : Prop := args = #[.ref x, .int (Int32.ofNat i)] ∧ Txt x t V 0 n f s ∧ i < n ∧ StaticIs s "java/lang/String" "COMPACT_STRINGS" "Z" (.int z) ∧ ¬ z = 0 ∧ StaticIs s "jdk/internal/util/Preconditions" "SIOOBE_FORMATTER" "Ljava/util/function/BiFunction;" fm ∧ fm.isRef = true
def E (f : Nat → Int32) (i : Nat) (r : Option Value) (s u : State) : Prop := XT.PureE (some (.int (f i))) r s u
/-- charAt(i) of a Latin-1 String of n chars, i < n: f i -/
theorem law (l : Launch) (x t : Addr) (V : Cell) (n : Nat) (f : Nat → Int32) (z : Int32) (fm : Value) (i : Nat) : Law l yN 2 1 3 40 yB 2 (some .char) site (P x t V n f z fm i) (E f i) [] 0 0 := by
  refine Law.of_walk (plainFor_of_name (by decide +kernel)) (by decide +kernel) (by decide +kernel) (by decide) (fun _ _ h => by rw [h.1]; rfl) (fun _ U U' hal hh h => ⟨h.1, h.2.1.mv hal hh, h.2.2.1, h.2.2.2.1.there hal hh, h.2.2.2.2.1, h.2.2.2.2.2.1.there hal hh, h.2.2.2.2.2.2⟩) (fun r U U' V V' h1 hal h2 h => XT.PureE.mv r U U' V V' h1 hal h2 h) ?_
  intro p e s m args below meth c s₁ X0 hexec hbytes hml hret hlk hnm hown hh0 W hP
  obtain ⟨rfl, hx, hi, s1, hz, s3, rf⟩ := hP
  have v31 := hx.2.2.2.1.2.2.2
  have hr := hx.2.2.2.2.2 i hi
  have hx0 := hx.mv X0.warmed.alike hh0
  have c1 : Steps p.tables e below (s₁.setTop (entryFrame m #[.ref x, .int (Int32.ofNat i)] 2)) (s₁.setTop (mkF m 1 #[.val (.ref x), .val (.int (Int32.ofNat i))] [.ref x])) := Steps.trans (entry rfl) (by
    show Steps p.tables e below (s₁.setTop (mkF m 0 #[.val (.ref x), .val (.int (Int32.ofNat i))] [])) _
    refine XS.aloadN X0.here hexec rfl (hb hbytes d0) rfl rfl ?_
    exact Steps.refl _)
  obtain ⟨v2, T2, X2, E2, g2⟩ := X0.callV hexec (IsL.law l x 0 z) hown (wks W (virtW "java/lang/String" 492 "java/lang/String" IsL.yN IsL.yN)) rfl (by decide) (wk W IsL.tab) (W := 0) (Nat.le_of_ble_eq_true rfl) (Nat.le_of_ble_eq_true rfl) (Nat.le_refl _) (Nat.le_refl _) (hx0.1.fc X0.warmed.alike) hx0.1.is (g := (mkF m 1 #[.val (.ref x), .val (.int (Int32.ofNat i))] [.ref x])) rfl (by rw [hml]; rfl) c1 (argsL := []) (rest := []) rfl rfl (by show 2 * 0 + 0 ≤ _; decide) (hb hbytes d1) (⟨rfl, hx0.2.2.1, hx.2.2.2.2.1.cd, s1.there X0.warmed.alike hh0, hz⟩)
  obtain ⟨rfl, q2⟩ := E2
  have hh2 := q2.trans hh0
  have hx2 := hx.mv X2.warmed.alike hh2
  obtain ⟨-, k1, k2⟩ | ⟨k0, -⟩ := hx.2.2.2.2.1
  · have c3 : Steps p.tables e below (s₁.setTop (entryFrame m #[.ref x, .int (Int32.ofNat i)] 2)) (T2.setTop (mkF m 8 #[.val (.ref x), .val (.int (Int32.ofNat i))] [.ref x])) := Steps.trans g2 (by
      refine XS.ifNo X2.here hexec rfl (hb hbytes d4) rfl (i0_eq_f (by decide)) ?_
      refine XS.aloadN X2.here hexec rfl (hb hbytes d7) rfl rfl ?_
      exact Steps.refl _)
    obtain ⟨T4, X4, q4, st4⟩ := X2.hget hexec hown (wk W (.fieldLink "java/lang/String" 9 "java/lang/String" "value" "[B")) hx2.2.1 (g := (mkF m 8 #[.val (.ref x), .val (.int (Int32.ofNat i))] [.ref x])) rfl (rest := []) rfl (hb hbytes d8)
    have hh4 := q4.trans hh2
    have c5 : Steps p.tables e below (s₁.setTop (entryFrame m #[.ref x, .int (Int32.ofNat i)] 2)) (T4.setTop (mkF m 12 #[.val (.ref x), .val (.int (Int32.ofNat i))] [.int (Int32.ofNat i), .ref t])) := (c3.trans (st4 _ (Steps.refl _))).trans (by
      refine XS.iloadN X4.here hexec rfl (hb hbytes d11) rfl ?_
      exact Steps.refl _)
    obtain ⟨v6, T6, X6, E6, g6⟩ := X4.callS hexec (LChA.law l t V i (lo8 (f i)) fm) hown (wks W (staticW "java/lang/String" 495 LChA.yN)) (wk W LChA.tab) (W := 0) (Nat.le_of_ble_eq_true rfl) (Nat.le_of_ble_eq_true rfl) (Nat.le_refl _) (Nat.le_refl _) (g := (mkF m 12 #[.val (.ref x), .val (.int (Int32.ofNat i))] [.int (Int32.ofNat i), .ref t])) rfl (by rw [hml]; rfl) c5 (argsL := [.ref t, .int (Int32.ofNat i)]) (rest := []) rfl rfl (by show 2 * 0 + 0 ≤ _; decide) (hb hbytes d12) (⟨rfl, hx.2.2.2.1.mv X4.warmed.alike hh4, (k2 i hi).1, s3.there X4.warmed.alike hh4, rf⟩)
    obtain ⟨rfl, q6⟩ := E6
    rw [chr8_lo8 hr.1 (k2 i hi).2] at g6
    exact ⟨T6, some (.int (f i)), _, _, _, X6, rfl, rfl, rfl, (fun h => by cases h), ⟨rfl, q6.trans hh4⟩, fun fs hl => Steps.trans g6 (X6.ireturnOut hexec hret (narrow_ch hr.1 hr.2) (Or.inr (Or.inr (Or.inr (Or.inl rfl)))) (hb hbytes d15) hl)⟩
  · exact absurd k0 (by decide)
theorem pays {l : Launch} {R : Room} {p : Program} {e : Env} {below : List Frame} {s : State} {sargs : Array Value} {len W : Nat} (x t : Addr) (V : Cell) (n : Nat) (f : Nat → Int32) (z : Int32) (fm : Value) (i : Nat) (htab : tab.before sargs s = true) (hfr : 4 ≤ R.frames) (hlo : W + 53 ≤ R.locals) :
    Back l R p e below s sargs yN len W (fun A₁ a₁ => A₁.cells + 0 ≤ R.cells ∧ A₁.slots + 0 ≤ R.slots ∧ P x t V n f z fm i a₁ A₁.U) (fun A₁ _ v₁ B₁ => E f i v₁ A₁.U B₁.U ∧ B₁.locs = A₁.locs ++ [] ∧ B₁.cells = A₁.cells + 0 ∧ B₁.slots = A₁.slots + 0) :=
  (law l x t V n f z fm i).pays htab hfr (by omega)
end ChN
end StrChars
namespace StrChars.Road
open Jvm Sem ClassFile Op Lib Jvm.Stand Jvm.Free Jvm.Free.XT
open Jvm.Lib.Cold (StaticIs)
/-- the words of String.charAt(int), the Latin-1 road alone -/
abbrev wordsChN : List Jvm.Cond := [.code ChN.yN ChN.yB 2 (some .char), .initialized ST, .fieldLink ST 9 ST "value" "[B", .fieldLink ST 38 ST "COMPACT_STRINGS" "Z", .fieldLink ST 15 ST "coder" "B", .code IsL.yN IsL.yB 1 (some .boolean), .methodLink ST 492 IsL.yN, .declares IsL.yN, .selects ST IsL.yN IsL.yN, .instanceMethod IsL.yN,
  .methodLink ST 495 LChA.yN, .static LChA.yN, .code LChA.yN LChA.yB 2 (some .char), .initialized "java/lang/StringLatin1", .methodLink "java/lang/StringLatin1" 9 JO.Str_checkIndex.yN, .static JO.Str_checkIndex.yN, .code JO.Str_checkIndex.yN JO.Str_checkIndex.yB 2 none,
  .fieldLink ST 1053 "jdk/internal/util/Preconditions" "SIOOBE_FORMATTER" "Ljava/util/function/BiFunction;", .methodLink ST 1059 JC.PreCheck.yN, .static JC.PreCheck.yN, .code JC.PreCheck.yN JC.PreCheck.yB 3 (some .int), .initialized "jdk/internal/util/Preconditions"]
theorem tabChN_of {a : Array Value} {s : State} (h : ∀ w ∈ wordsChN, w.before a s = true) : ChN.tab.before a s = true := by
  have hp : JC.PreCheck.tab.before a s = true := unparts (wk h (.code JC.PreCheck.yN JC.PreCheck.yB 3 (some .int))) (wks h (.initialized JC.PreCheck.yN.cls :: JC.PreCheck.site))
  have qk := consq hp h
  have hk : JO.Str_checkIndex.tab.before a s = true := unparts (wk qk (.code JO.Str_checkIndex.yN JO.Str_checkIndex.yB 2 none)) (wks qk (.initialized JO.Str_checkIndex.yN.cls :: JO.Str_checkIndex.site))
  have ql := consq hk h
  have hl : LChA.tab.before a s = true := unparts (wk ql (.code LChA.yN LChA.yB 2 (some .char))) (wks ql (.initialized LChA.yN.cls :: LChA.site))
  have hi : IsL.tab.before a s = true := unparts (wk h (.code IsL.yN IsL.yB 1 (some .boolean))) (wks h (.initialized IsL.yN.cls :: IsL.site))
  have q := consq hi (consq hl h)
  exact unparts (wk q (.code ChN.yN ChN.yB 2 (some .char))) (wks q (.initialized ChN.yN.cls :: ChN.site))
theorem movedChN {Z s : State} {a0 args : Array Value} (hZ : Z.Warmed39 s.vm) (hw : ∀ d ∈ wordsChN, d.before a0 Z = true) : ∀ d ∈ wordsChN, d.before args s = true := fun d hd => by
  have t : ∀ d ∈ wordsChN, (d.onTables && d.keepsFace) = true := by decide +kernel
  exact RoadKit.mv hZ (hw d hd) (t d hd)
/-- **charAt(i) OF A LATIN-1 STRING**, i < n: the char -/
theorem chN {p : Program} {l : Launch} {e : Env} {R : Room} {s : State} {args : Array Value} {below : List Frame} {len W : Nat} {Z : State} {a0 : Array Value} {h : Heap} (hZ : Z.Warmed39 s.vm) (hw : ∀ d ∈ wordsChN, d.before a0 Z = true) {kI : Nat} (wi : (Jvm.Cond.instantiable ST kI).before a0 Z = true)
    {x t : Addr} {kb : ClassId} {cs : List Int32} {N2 z : Int32} {vs : List Value} {fm : Value} {i : Nat} {j : Int32} (E : RoadKit.Exa Z h x ST) (V : RoadKit.Fld Z h x ST "value" "[B" (.ref t)) (C : RoadKit.Fld Z h x ST "coder" "B" (.int 0)) (K : RoadKit.Arv Z h t kb .byte N2 vs (.int 0)) (hc : CodA cs 0 N2 vs) (hb : ∀ c ∈ cs, ¬ c < 0 ∧ ¬ (65535 : Int32) < c)
    (S : RoadKit.Sta Z h ST "COMPACT_STRINGS" "Z" (.int z)) (hz : ¬ z = 0) (F : RoadKit.Sta Z h "jdk/internal/util/Preconditions" "SIOOBE_FORMATTER" "Ljava/util/function/BiFunction;" fm) (rf : fm.isRef = true) (l2 : cs.length ≤ 4000) (hi : i < cs.length) (hj : j = Int32.ofNat i) (hfr : 4 ≤ R.frames) (hlo : W + 53 ≤ R.locals) :
    Back l R p e below s args (⟨"java/lang/String", "charAt", "(I)C"⟩ : MethodName) len W (fun P a => a = #[.ref x, .int j] ∧ P.U.heap = h ∧ P.cells + 0 ≤ R.cells ∧ P.slots + 0 ≤ R.slots)
      (fun P _ v B => ∃ L, (v = some (.int (cs.getD i 0)) ∧ L = [] ∧ B.U.heap = h) ∧ B.locs = P.locs ++ L ∧ B.cells = P.cells + 0 ∧ B.slots = P.slots + 0) := by
  subst hj
  intro m meth c P g ig mk a X hg hsize hdg hW hn hp'
  obtain ⟨rfl, rfl, r1, r2⟩ := hp'
  have al : Z.vm.Alike P.U.vm := hZ.alike.trans X.warmed.alike
  obtain ⟨A, hx⟩ := txt_of wi al E V C K hc hb l2
  obtain ⟨v, B, X', ⟨⟨hv, hh⟩, hl, hk, hs⟩, st⟩ := ChN.pays x t A cs.length (fun j => cs.getD j 0) z fm i (tabChN_of (movedChN hZ hw)) hfr hlo m meth c P g ig mk _ X hg hsize hdg hW hn ⟨r1, r2, rfl, hx, hi, sta_is al S, hz, sta_is al F, rf⟩
  exact ⟨v, B, X', ⟨[], ⟨hv, rfl, hh⟩, hl, hk, hs⟩, st⟩
end StrChars.Road
end Jvm.Pilot.@@N@@
namespace Jvm.Pilot.@@N@@
open Jvm Jvm.ClassFile Sem Op Lib Jvm.Free Jvm.Stand Jvm.LawKit Jvm.RoadKit Bundle Jvm.Pilot.@@N@@.Jvm.D
theorem own_nb {P : Prop} [Decidable P] : nar .boolean (if P then (1 : Int32) else (0 : Int32)) = if P then (1 : Int32) else (0 : Int32) := by split <;> rfl
theorem own_nb2 {z : Int32} (h : z = 0 ∨ z = 1) : nar .boolean z = z := by rcases h with rfl | rfl <;> rfl
theorem own_01 {P : Prop} [Decidable P] : (if P then (1 : Int32) else (0 : Int32)) = 0 ∨ (if P then (1 : Int32) else (0 : Int32)) = 1 := by split <;> simp
theorem own_iv {a b : Int32} (h : a = b) : some (Value.int a) = some (Value.int b) := by rw [h]
theorem own_lv {a b : Int64} (h : a = b) : some (Value.long a) = some (Value.long b) := by rw [h]
theorem own_m {α : Type} {l : List α} {i : Nat} {a : α} (h : l[i]? = some a) : a ∈ l := List.mem_of_getElem? h
theorem own_IBi {Z : State} {vm vm' : Vm} {Ts : List String} (e : vm'.interned = vm.interned) (I : IB Z vm Ts) : IB Z vm' Ts := by
  obtain ⟨more, e1, h⟩ := I
  exact ⟨more, e.trans e1, h⟩
theorem own_backOfSB {l : Launch} {R : Room} {p : Program} {e : Env} {below : List Frame} {s : State} {args : Array Value} {Z : State} {a0 : Array Value} {h : Heap} {y : MethodName} {bytes : ByteArray} {maxL : Nat} {ret : Option FieldType} {rm : Room} {len W : Nat} {as' : Array Value} {Ts : List String} {Q : Option Value → Heap → List Loc → Prop}
    (hM : MetFree l y (head1 [Jvm.Cond.code y bytes maxL ret] rm) (fun a U => a = as' ∧ Z.Warmed39 U.vm ∧ U.heap = h ∧ IB Z U.vm Ts) (fun _ _ _ _ _ => True) (fun _ U o U' => ∃ v L, o = .returned v ∧ Q v U'.heap L ∧ ReturnedEndW U o U' L rm.cells rm.slots))
    (hZ : Z.Warmed39 s.vm) (hI : IB Z s.vm Ts) (wc : (Jvm.Cond.code y bytes maxL ret).before a0 Z = true) (wz : (Jvm.Cond.initialized y.cls).before a0 Z = true) (hf : rm.frames + 1 ≤ R.frames) (hl : W + (maxL + 11) + rm.locals ≤ R.locals) :
    BackS l R p e below s args y len W (fun A a => a = as' ∧ A.U.heap = h ∧ A.cells + rm.cells ≤ R.cells ∧ A.slots + rm.slots ≤ R.slots)
      (fun A _ v B => ∃ L, Q v B.U.heap L ∧ B.locs = A.locs ++ L ∧ B.cells = A.cells + rm.cells ∧ B.slots = A.slots + rm.slots) := by
  refine BackS.of_freeW (bytes := bytes) (maxL := maxL) (ret := ret) (E := fun _ _ o t L k n => k = rm.cells ∧ n = rm.slots ∧ ∃ v, o = .returned v ∧ Q v t.heap L) hM hf hl ?_ ?_ (fun _ _ _ _ _ _ _ _ _ => trivial) (fun _ _ _ _ ⟨v, L, h1, h2, h3⟩ => ⟨L, _, _, h3, rfl, rfl, v, h1, h2⟩) ?_
  · intro m meth c A a Y hp
    have hU : Z.Warmed39 A.U.vm := wtrans hZ Y.warmed
    exact ⟨by show (Jvm.Cond.and _ .tt).before a A.U = true; rw [Cond.before_and, mv hU wc]; rfl, mv hU wc, mv hU wz, hp.2.2.1, hp.2.2.2⟩
  · intro m meth c A a g mk Y hp
    exact ⟨hp.1, wtrans hZ Y.warmed, hp.2.1, own_IBi Y.warmed.interned_eq hI⟩
  · intro m meth c A a g mk v t L k n Y hp _ _ h
    obtain ⟨e1, e2, v', e3, e4⟩ := h
    cases e3; subst e1 e2
    exact ⟨L, e4, rfl, rfl, rfl⟩
theorem own_backOfSI {l : Launch} {R : Room} {p : Program} {e : Env} {below : List Frame} {s : State} {args : Array Value} {Z : State} {a0 : Array Value} {h : Heap} {y : MethodName} {bytes : ByteArray} {maxL : Nat} {ret : Option FieldType} {rm : Room} {len W : Nat} {as' : Array Value} {Q : Option Value → Heap → List Loc → Prop}
    (hM : MetFree l y (head1 [Jvm.Cond.code y bytes maxL ret] rm) (fun a U => a = as' ∧ Z.Warmed39 U.vm ∧ U.heap = h ∧ U.vm.interned = Z.vm.interned) (fun _ _ _ _ _ => True) (fun _ U o U' => ∃ v L, o = .returned v ∧ Q v U'.heap L ∧ ReturnedEndW U o U' L rm.cells rm.slots))
    (hZ : Z.Warmed39 s.vm) (hI : s.vm.interned = Z.vm.interned) (wc : (Jvm.Cond.code y bytes maxL ret).before a0 Z = true) (wz : (Jvm.Cond.initialized y.cls).before a0 Z = true) (hf : rm.frames + 1 ≤ R.frames) (hl : W + (maxL + 11) + rm.locals ≤ R.locals) :
    BackS l R p e below s args y len W (fun A a => a = as' ∧ A.U.heap = h ∧ A.cells + rm.cells ≤ R.cells ∧ A.slots + rm.slots ≤ R.slots)
      (fun A _ v B => ∃ L, Q v B.U.heap L ∧ B.locs = A.locs ++ L ∧ B.cells = A.cells + rm.cells ∧ B.slots = A.slots + rm.slots) := by
  refine BackS.of_freeW (bytes := bytes) (maxL := maxL) (ret := ret) (E := fun _ _ o t L k n => k = rm.cells ∧ n = rm.slots ∧ ∃ v, o = .returned v ∧ Q v t.heap L) hM hf hl ?_ ?_ (fun _ _ _ _ _ _ _ _ _ => trivial) (fun _ _ _ _ ⟨v, L, h1, h2, h3⟩ => ⟨L, _, _, h3, rfl, rfl, v, h1, h2⟩) ?_
  · intro m meth c A a Y hp
    have hU : Z.Warmed39 A.U.vm := wtrans hZ Y.warmed
    exact ⟨by show (Jvm.Cond.and _ .tt).before a A.U = true; rw [Cond.before_and, mv hU wc]; rfl, mv hU wc, mv hU wz, hp.2.2.1, hp.2.2.2⟩
  · intro m meth c A a g mk Y hp
    exact ⟨hp.1, wtrans hZ Y.warmed, hp.2.1, Y.warmed.interned_eq.trans hI⟩
  · intro m meth c A a g mk v t L k n Y hp _ _ h
    obtain ⟨e1, e2, v', e3, e4⟩ := h
    cases e3; subst e1 e2
    exact ⟨L, e4, rfl, rfl, rfl⟩
theorem own_wS {a0 : Array Value} {Z : State} (hw : ∀ d ∈ tables_1, d.before a0 Z = true) : ∀ a ∈ Bundle.stringAtoms, a.before a0 Z = true := by
  intro a ha
  simp only [Bundle.stringAtoms, List.mem_cons, List.not_mem_nil, or_false] at ha
  rcases ha with rfl | rfl | rfl | rfl | rfl | rfl | rfl
  · exact (hw _ (own_m (i := 1) rfl))
  · exact (hw _ (own_m (i := 2) rfl))
  · exact (hw _ (own_m (i := 3) rfl))
  · exact (hw _ (own_m (i := 4) rfl))
  · exact (hw _ (own_m (i := 5) rfl))
  · exact (hw _ (own_m (i := 6) rfl))
  · exact (hw _ (own_m (i := 7) rfl))
theorem own_not0 {args : Array Value} {s : State} {t : Term} {z : Int32} (ht : t.eval args s none [] s = some (.int z)) (h : (Jvm.Cond.not (.eq t (.int 0))).value args s none s [] = some true) : ¬ (z = (0 : Int32)) := by
  have h2 := not_v h
  simpa [Cond.value, ht, Term.eval] using h2
theorem own_255 (x : Int32) : ¬ ((255 : Int32) < (x &&& (255 : Int32))) := by
  have h := c_mask x 255 8 (by decide) (by decide)
  have h2 : (255 : Int32).toInt = 255 := rfl
  rw [Int32.lt_iff_toInt_lt]; omega
theorem own_fldI {args : Array Value} {s : State} {t : Term} {C n d : String} {a : Addr} {k : Int32} (ht : t.eval args s none [] s = some (.ref a)) (h : (Jvm.Cond.eq (.field t C n d) (.int k)).value args s none s [] = some true) : Fld s s.heap a C n d (.int k) := by
  apply Fld.start
  rw [← fld_at (C := C) (n := n) (dd := d) ht]
  cases hx : (Term.field t C n d).eval args s none [] s with
  | none => simp [Cond.value, hx] at h
  | some x => cases x <;> simp [Cond.value, hx, Term.int_eval] at h ⊢ <;> exact h
def own_S (i : Nat) : List Int32 := match i with
  | 0 => [115, 116, 97, 114, 116]
  | 1 => [97, 99, 116, 105, 118, 105, 116, 121]
  | 2 => [115, 121, 110, 99, 104, 114, 111, 110, 105, 122, 101, 114]
  | _ => [101, 110, 100]
def own_kind (w0 w1 w2 w3 : Addr) (cs : List Int32) : Value := if own_S 0 = cs then .ref w0 else if own_S 1 = cs then .ref w1 else if own_S 2 = cs then .ref w2 else if own_S 3 = cs then .ref w3 else .null
theorem own_kref (w0 w1 w2 w3 : Addr) (cs : List Int32) : (own_kind w0 w1 w2 w3 cs).isRef = true := by unfold own_kind; split; rfl; split; rfl; split; rfl; split <;> rfl
theorem own_narref {t : FieldType} {v : Value} (ht : t.isReference = true) (h : v.isRef = true) : narrow t v = v := by cases t <;> cases v <;> first | rfl | (cases ht; done) | (cases h; done)
theorem own_up (cs : List Int32) (h : ∀ c ∈ cs, ¬ c < 0 ∧ ¬ (255 : Int32) < c) : ∀ c ∈ cs, ¬ c < 0 ∧ ¬ (65535 : Int32) < c := fun c hc => ⟨(h c hc).1, fun q => (h c hc).2 (by rw [Int32.lt_iff_toInt_lt] at q ⊢; have e1 : (65535 : Int32).toInt = 65535 := rfl; have e2 : (255 : Int32).toInt = 255 := rfl; omega)⟩
def own_ok (cs : List Int32) : Prop := ∀ c ∈ cs, ¬ c < 0 ∧ ¬ (255 : Int32) < c
theorem own_okS (i : Nat) : own_ok (own_S i) := by
  unfold own_ok own_S
  split <;> decide
theorem own_c8 {c : Int32} (h : ¬ c < 0 ∧ ¬ (255 : Int32) < c) : nar .char c = c := by
  show c.toUInt32.toUInt16.toUInt32.toInt32 = c
  have h2 := c_i2c c
  obtain ⟨h3, h4⟩ := h
  rw [Int32.lt_iff_toInt_lt] at h3 h4
  have e0 : (0 : Int32).toInt = 0 := rfl
  have e1 : (255 : Int32).toInt = 255 := rfl
  rw [← Int32.toInt_inj]; omega
theorem own_gd {cs : List Int32} (h : own_ok cs) (i : Nat) : ¬ cs.getD i 0 < 0 ∧ ¬ (255 : Int32) < cs.getD i 0 := by
  by_cases q : i < cs.length
  · rw [List.getD_eq_getElem?_getD, List.getElem?_eq_getElem q]; exact h _ (List.getElem_mem q)
  · rw [List.getD_eq_getElem?_getD, List.getElem?_eq_none (Nat.le_of_not_lt q)]; decide
theorem own_ofNat {n : Nat} (h : n ≤ 4000) : (Int32.ofNat n).toInt = n := by
  have e : Int32.size = 4294967296 := rfl
  rw [Int32.toInt_ofNat']; simp only [Int.bmod, e]; omega
theorem own_at_lt {j : Nat} {cs : List Int32} (hj : j ≤ 4000) (hl : cs.length ≤ 4000) : Int32.ofNat j < Int32.ofNat cs.length ↔ j < cs.length := by
  rw [Int32.lt_iff_toInt_lt, own_ofNat hj, own_ofNat hl]; omega
theorem own_get0 {j : Nat} {cs : List Int32} (h : ¬ j < cs.length) : cs.getD j 0 = 0 := by
  rw [List.getD_eq_getElem?_getD, List.getElem?_eq_none (Nat.le_of_not_lt h)]; rfl
theorem own_staK {Z : State} {h h' : Heap} {O n d : String} {v : Value} (F : Sta Z h O n d v) (K : Keep h h' []) : Sta Z h' O n d v := by
  obtain ⟨cf, i, k, f, st, cell, h1, h2, h3, h4, h5, h6, h7⟩ := F
  exact ⟨cf, i, k, f, st, cell, h1, h2, h3, h4, K.2.1 _ _ h5 (fun q => nomatch q), h6, h7⟩
theorem own_l14 {AA : List Int32} (h : AA.length = 14) : ∃ c0 c1 c2 c3 c4 c5 c6 c7 c8 c9 c10 c11 c12 c13 : Int32, AA = [c0, c1, c2, c3, c4, c5, c6, c7, c8, c9, c10, c11, c12, c13] := by
  match AA, h with
  | [x0, x1, x2, x3, x4, x5, x6, x7, x8, x9, x10, x11, x12, x13], _ => exact ⟨x0, x1, x2, x3, x4, x5, x6, x7, x8, x9, x10, x11, x12, x13, rfl⟩
theorem own_mapD (A : List Int32) (i : Nat) : (A.map Value.int).getD i (.int 0) = .int (A.getD i 0) := by
  simp only [List.getD_eq_getElem?_getD, List.getElem?_map]
  cases A[i]? <;> rfl
theorem own_nk {n1 : Int32} {nn k : Nat} (h : n1 = Int32.ofNat nn) (h2 : n1 = Int32.ofNat k) (h3 : nn ≤ 13) (h4 : k ≤ 13) : nn = k := by
  have e := congrArg Int32.toInt (h.symm.trans h2)
  rw [own_ofNat (by omega), own_ofNat (by omega)] at e; omega
theorem own_okT {A : List Int32} (h : own_ok A) (n : Nat) : own_ok (A.take n) := fun c hc => h c (List.mem_of_mem_take hc)
def own_T (i : Nat) : String := match i with
  | 0 => "start"
  | 1 => "activity"
  | 2 => "synchronizer"
  | _ => "end"
def own_w (w0 w1 w2 w3 : Addr) (i : Nat) : Addr := match i with
  | 0 => w0
  | 1 => w1
  | 2 => w2
  | _ => w3
def own_A (i : Nat) : List Int32 := [(own_S i).getD 0 0, (own_S i).getD 1 0, (own_S i).getD 2 0, (own_S i).getD 3 0, (own_S i).getD 4 0, (own_S i).getD 5 0, (own_S i).getD 6 0, (own_S i).getD 7 0, (own_S i).getD 8 0, (own_S i).getD 9 0, (own_S i).getD 10 0, (own_S i).getD 11 0, 0, 0]
theorem own_IB0 {Z : State} {vm : Vm} (h : vm.interned = Z.vm.interned) : IB Z vm [] := ⟨#[], by rw [h]; exact (Array.append_empty).symm, fun q hq => absurd hq (Array.not_mem_empty q)⟩
theorem own_lt4 {i : Nat} (h : i < 4) : i = 0 ∨ i = 1 ∨ i = 2 ∨ i = 3 := by omega
theorem own_len (i : Nat) : 3 ≤ (own_S i).length ∧ (own_S i).length ≤ 12 := by unfold own_S; split <;> decide
theorem own_l4 (i : Nat) : (own_S i).length ≤ 4000 := Nat.le_trans (own_len i).2 (by decide)
theorem own_l13 (i : Nat) : (own_S i).length ≤ 13 := Nat.le_trans (own_len i).2 (by decide)
theorem own_okA {i : Nat} (h : i < 4) : own_ok (own_A i) := by
  unfold own_ok
  rcases own_lt4 h with rfl | rfl | rfl | rfl <;> decide
theorem own_noE {i : Nat} (h : i < 4) : "" ∉ [own_T i] := by
  rcases own_lt4 h with rfl | rfl | rfl | rfl <;> decide
theorem own_kl (w0 w1 w2 w3 : Addr) {cs : List Int32} (h : cs.length ≠ 5 ∧ cs.length ≠ 8 ∧ cs.length ≠ 12 ∧ cs.length ≠ 3) : own_kind w0 w1 w2 w3 cs = .null := by
  unfold own_kind
  rw [if_neg (fun q => h.1 (by rw [← q]; rfl)), if_neg (fun q => h.2.1 (by rw [← q]; rfl)), if_neg (fun q => h.2.2.1 (by rw [← q]; rfl)), if_neg (fun q => h.2.2.2 (by rw [← q]; rfl))]
theorem own_k0 (w0 w1 w2 w3 : Addr) {i : Nat} (h : i < 4) : own_kind w0 w1 w2 w3 ((own_A i).take (own_S i).length) = .ref (own_w w0 w1 w2 w3 i) := by
  unfold own_kind
  rcases own_lt4 h with rfl | rfl | rfl | rfl
  · rw [if_pos (by decide)]; rfl
  · rw [if_neg (by decide), if_pos (by decide)]; rfl
  · rw [if_neg (by decide), if_neg (by decide), if_pos (by decide)]; rfl
  · rw [if_neg (by decide), if_neg (by decide), if_neg (by decide), if_pos (by decide)]; rfl
theorem own_kn (w0 w1 w2 w3 : Addr) {i : Nat} (h : i < 4) {cs : List Int32} (hl : cs.length = (own_S i).length) (hne : own_S i ≠ cs) : own_kind w0 w1 w2 w3 cs = .null := by
  unfold own_kind
  rcases own_lt4 h with rfl | rfl | rfl | rfl
  · rw [if_neg hne, if_neg (fun q => by rw [← q] at hl; revert hl; decide), if_neg (fun q => by rw [← q] at hl; revert hl; decide), if_neg (fun q => by rw [← q] at hl; revert hl; decide)]
  · rw [if_neg (fun q => by rw [← q] at hl; revert hl; decide), if_neg hne, if_neg (fun q => by rw [← q] at hl; revert hl; decide), if_neg (fun q => by rw [← q] at hl; revert hl; decide)]
  · rw [if_neg (fun q => by rw [← q] at hl; revert hl; decide), if_neg (fun q => by rw [← q] at hl; revert hl; decide), if_neg hne, if_neg (fun q => by rw [← q] at hl; revert hl; decide)]
  · rw [if_neg (fun q => by rw [← q] at hl; revert hl; decide), if_neg (fun q => by rw [← q] at hl; revert hl; decide), if_neg (fun q => by rw [← q] at hl; revert hl; decide), if_neg hne]
theorem own_lenA (i : Nat) : (own_A i).length = 14 := rfl
theorem own_lenAs (i p : Nat) (c : Int32) : ((own_A i).set p c).length = 14 := by rw [List.length_set]; rfl
theorem own_AS : ∀ i, i < 4 → ∀ p, p < (own_S i).length → (own_S i)[p]? = (own_A i)[p]? := by decide
theorem own_k1e (w0 w1 w2 w3 : Addr) {i p : Nat} (h : i < 4) {c : Int32} (hc : c = (own_A i).getD p 0) (hp : p < (own_S i).length) : own_kind w0 w1 w2 w3 (((own_A i).set p c).take (own_S i).length) = .ref (own_w w0 w1 w2 w3 i) := by
  have hp14 : p < (own_A i).length := by rw [own_lenA]; have := (own_len i).2; omega
  have e : (own_A i).set p c = own_A i := by
    rw [hc, List.getD_eq_getElem?_getD, List.getElem?_eq_getElem hp14]; exact List.set_getElem_self hp14
  rw [e]; exact own_k0 w0 w1 w2 w3 h
theorem own_k1n (w0 w1 w2 w3 : Addr) {i p : Nat} (h : i < 4) {c : Int32} (hc : ¬ c = (own_A i).getD p 0) (hp : p < (own_S i).length) : own_kind w0 w1 w2 w3 (((own_A i).set p c).take (own_S i).length) = .null := by
  have hp14 : p < (own_A i).length := by rw [own_lenA]; have := (own_len i).2; omega
  refine own_kn w0 w1 w2 w3 h (by rw [List.length_take, own_lenAs]; have := (own_len i).2; omega) (fun q => hc ?_)
  have e := congrArg (fun l => l[p]?) q
  simp only [List.getElem?_take, hp, if_true, List.getElem?_set_self hp14, own_AS i h p hp] at e
  rw [List.getD_eq_getElem?_getD, e]; rfl
theorem own_k2a : ∀ i, i < 4 → ∀ k, k < (own_S i).length → own_S 0 ≠ (own_A i).take k ∧ own_S 1 ≠ (own_A i).take k ∧ own_S 2 ≠ (own_A i).take k ∧ own_S 3 ≠ (own_A i).take k := by decide
theorem own_k2 (w0 w1 w2 w3 : Addr) {i k : Nat} (h : i < 4) (hk : k < (own_S i).length) : own_kind w0 w1 w2 w3 ((own_A i).take k) = .null := by
  obtain ⟨q0, q1, q2, q3⟩ := own_k2a i h k hk
  unfold own_kind; rw [if_neg q0, if_neg q1, if_neg q2, if_neg q3]
theorem own_k3 (w0 w1 w2 w3 : Addr) {i : Nat} (h : i < 4) (c : Int32) : own_kind w0 w1 w2 w3 (((own_A i).set (own_S i).length c).take ((own_S i).length + 1)) = .null := by
  apply own_kl; rw [List.length_take, own_lenAs]
  rcases own_lt4 h with rfl | rfl | rfl | rfl <;> decide
theorem own_n0 (i : Nat) : Int32.ofNat (own_S i).length ≠ 0 := by unfold own_S; split <;> decide
theorem own_mask (x : Int32) : ¬ (x &&& (255 : Int32)) < 0 ∧ ¬ (255 : Int32) < (x &&& (255 : Int32)) := by
  have h := c_and x 255 (by decide)
  have h3 : (0 : Int32).toInt = 0 := rfl
  have h4 : (255 : Int32).toInt = 255 := rfl
  rw [Int32.lt_iff_toInt_lt, Int32.lt_iff_toInt_lt]; omega
theorem own_rem (x : Int32) (i : Nat) : ∃ pp : Nat, pp < (own_S i).length ∧ ((x &&& (2147483647 : Int32)) % (Int32.ofNat (own_S i).length)) = Int32.ofNat pp := by
  have h0 : 0 ≤ (x &&& (2147483647 : Int32)).toInt := (c_and x 2147483647 (by decide)).1
  have e := own_ofNat (own_l4 i)
  have hl := own_len i
  generalize (own_S i).length = n at e hl ⊢
  obtain ⟨q1, q2, -⟩ := (c_iremV (x &&& (2147483647 : Int32)) (Int32.ofNat n)).1 h0 (by rw [e]; omega)
  rw [e] at q2
  generalize ((x &&& (2147483647 : Int32)) % (Int32.ofNat n)) = r at q1 q2 ⊢
  refine ⟨r.toInt.toNat, by omega, ?_⟩
  rw [← Int32.toInt_inj, own_ofNat (by omega)]; omega
theorem own_tn {p : Nat} (h : p < 14) : (Int32.ofNat p).toNatClampNeg = p := by
  have e := own_ofNat (n := p) (by omega)
  simp only [Int32.toNatClampNeg, e]; omega
theorem own_ib {p : Nat} (h : p < 14) : ¬ (Int32.ofNat p) < 0 ∧ (Int32.ofNat p) < (14 : Int32) := by
  have e := own_ofNat (n := p) (by omega)
  have h3 : (0 : Int32).toInt = 0 := rfl
  have h4 : (14 : Int32).toInt = 14 := rfl
  rw [Int32.lt_iff_toInt_lt, Int32.lt_iff_toInt_lt]; omega
theorem own_n1 (i : Nat) : Int32.ofNat (own_S i).length + (1 : Int32) = Int32.ofNat ((own_S i).length + 1) := by unfold own_S; split <;> decide
theorem own_setC {Z : State} {h h' : Heap} {b : Addr} {k : ClassId} {cc j v : Int32} {P : List Int32} {cl : Cell} (A : Arr Z h b cl .char) (q1 : cl.cls = k) (S : cl.slots.size = cc.toNatClampNeg) (M : ¬ cc < 0) (H : Has cl (P.map Value.int) (.int 0)) (G : ∀ i, i < cl.slots.size → fits .char ((P.map Value.int).getD i (.int 0)) = true) (W : Wr h h' b j.toNatClampNeg (.int (nar .char v))) (hv : nar .char v = v) (i : Nat) (hj : j.toNatClampNeg = i) (hi : i < P.length) : Arv Z h' b k .char cc ((P.set i v).map Value.int) (.int 0) := by
  rw [hv] at W
  have r := Arv.set A q1 S M H G (by have := fits_nar_char v; rw [hv] at this; exact this) W i hj (by simpa using hi)
  rw [← List.map_set] at r; exact r
theorem own_okSet {A : List Int32} (h : own_ok A) (p : Nat) {c : Int32} (hc : ¬ c < 0 ∧ ¬ (255 : Int32) < c) : own_ok (A.set p c) := fun d hd => by
  rcases List.mem_or_eq_of_mem_set hd with q | q
  · exact h d q
  · rw [q]; exact hc
theorem own_lnT {A : List Int32} (h : A.length = 14) (n : Nat) : (A.take n).length ≤ 4000 := by rw [List.length_take]; omega
theorem own_p14 {i p : Nat} (h : p < (own_S i).length) : p < 14 := by have := (own_len i).2; omega
theorem own_sz {args : Array Value} {s : State} {t : Term} {a : Addr} {cl : Cell} {k : Int32} (ht : t.eval args s none [] s = some (.ref a)) (hc : s.heap[a]? = some cl) (h : (Jvm.Cond.eq (.length t) (.int k)).value args s none s [] = some true) : cl.slots.size.toInt32 = k ∧ cl.slots.size < 2 ^ 31 := by
  cases hx : (Term.length t).eval args s none [] s with
  | none => simp [Cond.value, hx] at h
  | some v =>
    obtain ⟨a', c', e1, e2, rfl⟩ := Term.length_spec hx
    cases ht.symm.trans e1
    cases hc.symm.trans (State.arrayAt?_spec e2).1
    refine ⟨by simpa [Cond.value, hx, Term.int_eval] using h, ?_⟩
    by_cases q : cl.slots.size < 2 ^ 31
    · exact q
    · simp [Term.eval, ht, e2, q] at hx
theorem own_el {args : Array Value} {s : State} {t u : Term} {a w : Addr} {cl : Cell} {k : Int32} {i : Nat} (ht : t.eval args s none [] s = some (.ref a)) (hc : s.heap[a]? = some cl) (hu : u.eval args s none [] s = some (.ref w)) (hk : k.toNatClampNeg = i) (h : (Jvm.Cond.eq (.elem t (.int k)) u).value args s none s [] = some true) : cl.slots[i]? = some (.ref w) := by
  cases hx : (Term.elem t (.int k)).eval args s none [] s with
  | none => simp [Cond.value, hx] at h
  | some v =>
    obtain ⟨c', e1, -, e2⟩ := elem_at hx ht (Term.int_eval k)
    cases hc.symm.trans e1
    rw [← hk, e2]
    cases v <;> simp [Cond.value, hx, hu] at h ⊢
    exact h
theorem own_elI {args : Array Value} {s : State} {t : Term} {a : Addr} {cl : Cell} {k z : Int32} {i : Nat} (ht : t.eval args s none [] s = some (.ref a)) (hc : s.heap[a]? = some cl) (hk : k.toNatClampNeg = i) (h : (Jvm.Cond.eq (.elem t (.int k)) (.int z)).value args s none s [] = some true) : cl.slots[i]? = some (.int z) := by
  cases hx : (Term.elem t (.int k)).eval args s none [] s with
  | none => simp [Cond.value, hx] at h
  | some v =>
    obtain ⟨c', e1, -, e2⟩ := elem_at hx ht (Term.int_eval k)
    cases hc.symm.trans e1
    rw [← hk, e2]
    cases v <;> simp [Cond.value, hx, Term.int_eval] at h ⊢
    exact h
theorem own_pd0 : parseMethodDescriptor "(I)C" = some ⟨[.int], some .char⟩ := by decide +kernel
theorem own_d3_0 : decode method_3_code 0 = .ok (.iload_n 2, 1) := by decide +kernel
theorem own_d3_1 : decode method_3_code 1 = .ok (.iload_n 1, 1) := by decide +kernel
theorem own_d3_2 : decode method_3_code 2 = .ok (.if_icmp .ge 9, 3) := by decide +kernel
theorem own_d3_5 : decode method_3_code 5 = .ok (.aload_n 0, 1) := by decide +kernel
theorem own_d3_6 : decode method_3_code 6 = .ok (.iload_n 2, 1) := by decide +kernel
theorem own_d3_7 : decode method_3_code 7 = .ok (.invokevirtual 51, 3) := by decide +kernel
theorem own_d3_10 : decode method_3_code 10 = .ok (.ireturn, 1) := by decide +kernel
theorem own_d3_11 : decode method_3_code 11 = .ok (.iconst 0, 1) := by decide +kernel
theorem own_d3_12 : decode method_3_code 12 = .ok (.ireturn, 1) := by decide +kernel
theorem own_pn0 : plainName "com/example/millrace/millrace/definition/NodeKindOfElementPinLaw" = true := by first | (simp [plainName, overriddenIn]; done) | decide +kernel
theorem own_ef3 (m : MethodId) (x0 : Addr) (x1 : Int32) (x2 : Int32) : entryFrame m #[(.ref x0), (.int x1), (.int x2)] 3 = mkF m 0 #[.val (.ref x0), .val (.int x1), .val (.int x2)] [] := by first | (simp [entryFrame, mkF, argsToLocals, Value.category]; done) | rfl
def own_Q_own_at (Z : State) (sg : Addr) (n1 : Int32) (i1 : Int32) (jj : Nat) (bv : Addr) (kb : ClassId) (cs : List Int32) (cz : Int32) (fm : Value) (h0 : Heap) (n0 : Nat) (v : Option Value) (h : Heap) (L : List Loc) : Prop := v = some (.int (cs.getD jj 0)) ∧ Fr n0 L ∧ h = h0
set_option maxRecDepth 65536 in
set_option maxHeartbeats 40000000 in
theorem own_at (l : Launch) (Z : State) (a0 : Array Value) (hw : ∀ d ∈ tables_1, d.before a0 Z = true) (ws : List Jvm.Cond) (sg : Addr) (n1 : Int32) (i1 : Int32) (jj : Nat) (bv : Addr) (kb : ClassId) (cs : List Int32) (cz : Int32) (fm : Value) (h0 : Heap) (n0 : Nat) (Z0 : n0 ≤ h0.size) (Es : Exa Z h0 sg "java/lang/String") (Fc : Fld Z h0 sg "java/lang/String" "coder" "B" (.int 0)) (Fv : Fld Z h0 sg "java/lang/String" "value" "[B" (.ref bv)) (Vb : Arv Z h0 bv kb .byte (Int32.ofNat cs.length) (List.map (fun c => Value.int (StrChars.lo8 c)) cs) (.int 0)) (ok : own_ok cs) (ln : cs.length ≤ 4000) (S : Sta Z h0 "java/lang/String" "COMPACT_STRINGS" "Z" (.int cz)) (hcz : ¬ cz = 0) (Sf : Sta Z h0 "jdk/internal/util/Preconditions" "SIOOBE_FORMATTER" "Ljava/util/function/BiFunction;" fm) (rfm : fm.isRef = true) (hn1 : n1 = Int32.ofNat cs.length) (hi1 : i1 = Int32.ofNat jj) (hjj : jj ≤ 4000) :
    MetFree l (⟨"com/example/millrace/millrace/definition/NodeKindOfElementPinLaw", "at", "(Ljava/lang/String;II)C"⟩ : MethodName) (head1 (Jvm.Cond.code (⟨"com/example/millrace/millrace/definition/NodeKindOfElementPinLaw", "at", "(Ljava/lang/String;II)C"⟩ : MethodName) method_3_code 3 (some .char) :: ws) ({ frames := 4, cells := 0, slots := 0, locals := 53 } : Room)) (fun as_ U => as_ = #[(.ref sg), (.int n1), (.int i1)] ∧ Z.Warmed39 U.vm ∧ U.heap = h0) (fun _ _ _ _ _ => True) (fun _ U o U' => ∃ v L, o = .returned v ∧ own_Q_own_at Z sg n1 i1 jj bv kb cs cz fm h0 n0 v U'.heap L ∧ FrameEnd U o U' L ({ frames := 4, cells := 0, slots := 0, locals := 53 } : Room).cells ({ frames := 4, cells := 0, slots := 0, locals := 53 } : Room).slots) := by
  refine MetFree.of_bodySF (plainFor_of_name own_pn0) hisR ?_
  intro p e s m args below meth c s₁ Bd hml0 hP hK
  obtain ⟨rfl, hZ, hh⟩ := hP
  have hx := Bd.exec
  have hby := Bd.bytes
  have hml : c.maxLocals = 3 := hml0
  have hown : s.vm.findClass "com/example/millrace/millrace/definition/NodeKindOfElementPinLaw" = some m.cls := findClass_of_methodNamed Bd.named
  have hnm := (name_of_methodNamed Bd.named Bd.method).1
  have X0 : Stand p l e ({ frames := 4, cells := 0, slots := 0, locals := 53 } : Room) s m #[(.ref sg), (.int n1), (.int i1)] below meth c s₁ [] 0 0 := Stand.of_body Bd
  have e0 : s₁.heap = h0 := by rw [← hh, Bd.state]; rfl
  have N0 := Fr.nil n0
  have pre0 : ∀ t, Steps p.tables e below (s₁.setTop (mkF m 0 #[.val (.ref sg), .val (.int n1), .val (.int i1)] [])) t → Steps p.tables e below (s₁.setTop (entryFrame m #[(.ref sg), (.int n1), (.int i1)] 3)) t := fun t k => castTop (own_ef3 m sg n1 i1) k
  have pre1 : ∀ t, Steps p.tables e below (s₁.setTop (mkF m 2 #[.val (.ref sg), .val (.int n1), .val (.int i1)] [(.int n1), (.int i1)])) t → Steps p.tables e below (s₁.setTop (entryFrame m #[(.ref sg), (.int n1), (.int i1)] 3)) t := fun t k => pre0 t (by
    show Steps p.tables e below (s₁.setTop (mkF m 0 #[.val (.ref sg), .val (.int n1), .val (.int i1)] [])) _
    refine XS.iloadN X0.here hx rfl (hb hby own_d3_0) rfl ?_
    show Steps p.tables e below (s₁.setTop (mkF m 1 #[.val (.ref sg), .val (.int n1), .val (.int i1)] [(.int i1)])) _
    refine XS.iloadN X0.here hx rfl (hb hby own_d3_1) rfl ?_
    show Steps p.tables e below (s₁.setTop (mkF m 2 #[.val (.ref sg), .val (.int n1), .val (.int i1)] [(.int n1), (.int i1)])) _
    exact k)
  by_cases hc2 : i1 < n1
  · skip
    have hlt : jj < cs.length := (own_at_lt hjj ln).mp (by rw [← hn1, ← hi1]; exact hc2)
    obtain ⟨cq3, kq3, q3a, q3b, q3c⟩ := isOf hZ e0 Es
    obtain ⟨_, _, ⟨T3, L3, k3, n3⟩, -, X3, ⟨Lc3, hQ3, l3, y3, z3⟩, st3⟩ := X0.virtualBack hx (y := (⟨"java/lang/String", "charAt", "(I)C"⟩ : MethodName)) (z := (⟨"java/lang/String", "charAt", "(I)C"⟩ : MethodName)) hown (mvT hZ (hw _ (own_m (i := 29) rfl))) (mvT hZ (hw _ (own_m (i := 30) rfl))) (notFace_of_selects (args := #[]) (mvT hZ (hw _ (own_m (i := 32) rfl)))) (mvT hZ (hw _ (own_m (i := 32) rfl))) (mvT hZ (hw _ (own_m (i := 31) rfl))) (by decide) (StrChars.Road.chN (W := 0) hZ (fun d hd => hw d ((by decide +kernel : ∀ d ∈ StrChars.Road.wordsChN, d ∈ tables_1) d hd)) (kI := 4) (hw _ (own_m (i := 2) rfl)) Es Fv Fc Vb (Or.inl ⟨rfl, rfl, rfl, fun c hc => (ok c hc).2⟩ : StrChars.Road.CodA cs 0 (Int32.ofNat cs.length) (List.map (fun c => Value.int (StrChars.lo8 c)) cs)) (own_up cs ok) S hcz Sf rfm ln hlt hi1 (by decide) (by decide)) q3a q3c (g := (mkF m 7 #[.val (.ref sg), .val (.int n1), .val (.int i1)] [(.int i1), (.ref sg)])) rfl (by rw [hml]; rfl) (Steps.refl _) (argsL := [(.int i1)]) (rest := []) (lenOf own_pd0 rfl) rfl (by show 2 * 0 + _ ≤ _; exact Nat.le_of_eq rfl) (hb hby own_d3_7) (fun _ _ => ⟨rfl, e0, (by decide : 0 + 0 ≤ _), (by decide : 0 + 0 ≤ _)⟩)
    dsimp only [Pt.U, Pt.locs, Pt.cells, Pt.slots] at X3 l3 y3 z3 st3 hQ3
    subst l3 y3 z3
    obtain ⟨rfl, rfl, e3⟩ := hQ3
    have N3q := Fr.nil n0
    have N3 := Fr.app N0 N3q
    obtain ⟨fs, hr, hrun, hended, hW, hsame⟩ := X3.leave (v := some (.int (nar .char (cs.getD jj 0)))) (fun h => by rw [Bd.returns] at h; cases h)
    refine ⟨_, _, pre1 _ ?_, hrun, hended, _, _, rfl, ?_, ⟨_, rfl⟩, hW, hsame.mono (by decide) (by decide)⟩
    · refine XS.icmpNo X0.here hx rfl (hb hby own_d3_2) rfl (tlt hc2).2.1 ?_
      show Steps p.tables e below (s₁.setTop (mkF m 5 #[.val (.ref sg), .val (.int n1), .val (.int i1)] [])) _
      refine XS.aloadN X0.here hx rfl (hb hby own_d3_5) rfl rfl ?_
      show Steps p.tables e below (s₁.setTop (mkF m 6 #[.val (.ref sg), .val (.int n1), .val (.int i1)] [(.ref sg)])) _
      refine XS.iloadN X0.here hx rfl (hb hby own_d3_6) rfl ?_
      show Steps p.tables e below (s₁.setTop (mkF m 7 #[.val (.ref sg), .val (.int n1), .val (.int i1)] [(.int i1), (.ref sg)])) _
      refine st3.trans ?_
      show Steps p.tables e below (T3.setTop (mkF m 10 #[.val (.ref sg), .val (.int n1), .val (.int i1)] [(.int (cs.getD jj 0))])) _
      exact retN X3 hx (t := .char) Bd.returns (by simp) (hb hby own_d3_10) hr
    · show own_Q_own_at Z sg n1 i1 jj bv kb cs cz fm h0 n0 _ T3.heap _
      rw [e3]
      exact ⟨own_iv (own_c8 (own_gd ok jj)), N3, rfl⟩
  · skip
    obtain ⟨fs, hr, hrun, hended, hW, hsame⟩ := X0.leave (v := some (.int 0)) (fun h => by rw [Bd.returns] at h; cases h)
    refine ⟨_, _, pre1 _ ?_, hrun, hended, _, _, rfl, ?_, ⟨_, rfl⟩, hW, hsame.mono (by decide) (by decide)⟩
    · refine XS.icmpYes X0.here hx rfl (pc0 := 2) (pc' := 11) rfl (hb hby own_d3_2) rfl (flt hc2).2.1 (by decide) (by decide) ?_
      show Steps p.tables e below (s₁.setTop (mkF m 11 #[.val (.ref sg), .val (.int n1), .val (.int i1)] [])) _
      refine XS.iconst X0.here hx rfl (hb hby own_d3_11) ?_
      show Steps p.tables e below (s₁.setTop (mkF m 12 #[.val (.ref sg), .val (.int n1), .val (.int i1)] [(.int 0)])) _
      exact retN X0 hx (t := .char) Bd.returns (by simp) (hb hby own_d3_12) hr
    · show own_Q_own_at Z sg n1 i1 jj bv kb cs cz fm h0 n0 _ s₁.heap _
      rw [e0]
      exact ⟨own_iv (own_get0 (fun q_ => hc2 (by rw [hn1, hi1]; exact (own_at_lt hjj ln).mpr q_))).symm, N0, rfl⟩
theorem own_d17_0 : decode prog_16_method_1_code 0 = .ok (.getstatic 16, 3) := by decide +kernel
theorem own_d17_3 : decode prog_16_method_1_code 3 = .ok (.invokevirtual 20, 3) := by decide +kernel
theorem own_d17_6 : decode prog_16_method_1_code 6 = .ok (.checkcast 21, 3) := by decide +kernel
theorem own_d17_9 : decode prog_16_method_1_code 9 = .ok (.areturn, 1) := by decide +kernel
theorem own_pn1 : plainName "com/example/millrace/millrace/definition/NodeKind" = true := by first | (simp [plainName, overriddenIn]; done) | decide +kernel
theorem own_ef17 (m : MethodId)  : entryFrame m #[] 0 = mkF m 0 #[] [] := by first | (simp [entryFrame, mkF, argsToLocals, Value.category]; done) | rfl
def own_Q_own_vals (Z : State) (va : Addr) (kv : ClassId) (w0 : Addr) (w1 : Addr) (w2 : Addr) (w3 : Addr) (h0 : Heap) (n0 : Nat) (v : Option Value) (h : Heap) (L : List Loc) : Prop := ∃ (b : Addr), v = some (.ref b) ∧ Fr n0 L ∧ Keep h0 h [] ∧ Arv Z h b kv (.object "com/example/millrace/millrace/definition/NodeKind") (4 : Int32) [(.ref w0), (.ref w1), (.ref w2), (.ref w3)] .null ∧ h0.size ≤ b
set_option maxRecDepth 65536 in
set_option maxHeartbeats 40000000 in
theorem own_vals (l : Launch) (Z : State) (a0 : Array Value) (hw : ∀ d ∈ tables_1, d.before a0 Z = true) (ws : List Jvm.Cond) (va : Addr) (kv : ClassId) (w0 : Addr) (w1 : Addr) (w2 : Addr) (w3 : Addr) (h0 : Heap) (n0 : Nat) (Z0 : n0 ≤ h0.size) (S_V : Sta Z h0 "com/example/millrace/millrace/definition/NodeKind" "$VALUES" "[Lcom/example/millrace/millrace/definition/NodeKind;" (.ref va)) (VV : Arv Z h0 va kv (.object "com/example/millrace/millrace/definition/NodeKind") (4 : Int32) [(.ref w0), (.ref w1), (.ref w2), (.ref w3)] .null) (EV : Exa Z h0 va "[Lcom/example/millrace/millrace/definition/NodeKind;") :
    MetFree l (⟨"com/example/millrace/millrace/definition/NodeKind", "values", "()[Lcom/example/millrace/millrace/definition/NodeKind;"⟩ : MethodName) (head1 (Jvm.Cond.code (⟨"com/example/millrace/millrace/definition/NodeKind", "values", "()[Lcom/example/millrace/millrace/definition/NodeKind;"⟩ : MethodName) prog_16_method_1_code 0 (some (.array (.object "com/example/millrace/millrace/definition/NodeKind"))) :: ws) ({ frames := 1, cells := 1, slots := 4, locals := 14 } : Room)) (fun as_ U => as_ = #[] ∧ Z.Warmed39 U.vm ∧ U.heap = h0) (fun _ _ _ _ _ => True) (fun _ U o U' => ∃ v L, o = .returned v ∧ own_Q_own_vals Z va kv w0 w1 w2 w3 h0 n0 v U'.heap L ∧ FrameEnd U o U' L ({ frames := 1, cells := 1, slots := 4, locals := 14 } : Room).cells ({ frames := 1, cells := 1, slots := 4, locals := 14 } : Room).slots) := by
  refine MetFree.of_bodySF (plainFor_of_name own_pn1) hisR ?_
  intro p e s m args below meth c s₁ Bd hml0 hP hK
  obtain ⟨rfl, hZ, hh⟩ := hP
  have hx := Bd.exec
  have hby := Bd.bytes
  have hml : c.maxLocals = 0 := hml0
  have hown : s.vm.findClass "com/example/millrace/millrace/definition/NodeKind" = some m.cls := findClass_of_methodNamed Bd.named
  have hnm := (name_of_methodNamed Bd.named Bd.method).1
  have X0 : Stand p l e ({ frames := 1, cells := 1, slots := 4, locals := 14 } : Room) s m #[] below meth c s₁ [] 0 0 := Stand.of_body Bd
  have e0 : s₁.heap = h0 := by rw [← hh, Bd.state]; rfl
  have N0 := Fr.nil n0
  have pre0 : ∀ t, Steps p.tables e below (s₁.setTop (mkF m 0 #[] [])) t → Steps p.tables e below (s₁.setTop (entryFrame m #[] 0)) t := fun t k => castTop (own_ef17 m ) k
  have KP := Keep.refl h0 ([] : List Addr)
  obtain ⟨T1, X1, e1, st1⟩ := getS2 X0 hx hZ hown (host := "") (Or.inl (hw _ (own_m (i := 81) rfl))) Via.refl e0 S_V (g := (mkF m 0 #[] [])) rfl (hb hby own_d17_0)
  obtain ⟨T2, h2, X2, e2, E2, V2, Q2, st2⟩ := cloneH X1 hx hZ hown (hw _ (own_m (i := 83) rfl)) (hw _ (own_m (i := 84) rfl)) (hw _ (own_m (i := 88) rfl)) (hw _ (own_m (i := 86) rfl)) (hw _ (own_m (i := 87) rfl)) (hw _ (own_m (i := 89) rfl)) e1 VV.arh EV (g := (mkF m 3 #[] [(.ref va)])) rfl (by rw [hml]; rfl) rfl (hb hby own_d17_3) (by decide) (W := 0) (cap := 4) (by show 2 * 0 + _ ≤ _; exact Nat.le_of_eq rfl) (by decide) (by decide) (by decide) (by decide)
  obtain ⟨b2, g2⟩ : ∃ z, z = h0.size := ⟨_, rfl⟩
  rw [← g2] at V2 Q2 st2
  have g_b2 : n0 ≤ b2 := Nat.le_trans Z0 (Nat.le_of_eq g2.symm)
  have sz_b2 : h0.size ≤ b2 := Nat.le_trans KP.1 (Nat.le_of_eq g2.symm)
  have ne_va_b2 : va ≠ b2 := Nat.ne_of_lt (Nat.lt_of_lt_of_le VV.lt (Nat.le_of_eq g2.symm))
  have VV := VV.ext E2
  have EV := EV.ext E2
  have S_V := S_V.ext E2
  have Z3 : n0 ≤ h2.size := Nat.le_trans Z0 E2.1
  have KP := KP.ext E2
  have V_b2 : Arv Z h2 b2 kv (.object "com/example/millrace/millrace/definition/NodeKind") (4 : Int32) [(.ref w0), (.ref w1), (.ref w2), (.ref w3)] .null := V2
  obtain ⟨T4, X4, e4, st4⟩ := castY X2 hx hZ hown (hw _ (own_m (i := 94) rfl)) e2 (Ins.self Q2) (g := (mkF m 6 #[] [(.ref b2)])) rfl rfl (hb hby own_d17_6)
  obtain ⟨fs, hr, hrun, hended, hW, hsame⟩ := X4.leave (v := some (.ref b2)) (fun h => by rw [Bd.returns] at h; cases h)
  refine ⟨_, _, pre0 _ ?_, hrun, hended, _, _, rfl, ?_, ⟨_, rfl⟩, hW, hsame.mono (by decide) (by decide)⟩
  · show Steps p.tables e below (s₁.setTop (mkF m 0 #[] [])) _
    refine st1 _ ?_
    show Steps p.tables e below (T1.setTop (mkF m 3 #[] [(.ref va)])) _
    refine st2 _ ?_
    show Steps p.tables e below (T2.setTop (mkF m 6 #[] [(.ref b2)])) _
    refine st4 _ ?_
    show Steps p.tables e below (T4.setTop (mkF m 9 #[] [(.ref b2)])) _
    exact retOut X4 hx (t := (.array (.object "com/example/millrace/millrace/definition/NodeKind"))) Bd.returns rfl (Or.inr (Or.inr (Or.inr (Or.inr ⟨rfl, rfl, rfl⟩)))) (hb hby own_d17_9) hr
  · show own_Q_own_vals Z va kv w0 w1 w2 w3 h0 n0 _ T4.heap _
    rw [e4]
    exact ⟨b2, rfl, N0, KP, V_b2, sz_b2⟩
theorem own_pd1 : parseMethodDescriptor "()[Lcom/example/millrace/millrace/definition/NodeKind;" = some ⟨[], some (.array (.object "com/example/millrace/millrace/definition/NodeKind"))⟩ := by decide +kernel
theorem own_pd2 : parseMethodDescriptor "(Ljava/lang/Object;)Z" = some ⟨[(.object "java/lang/Object")], some .boolean⟩ := by decide +kernel
theorem own_d16_0 : decode prog_16_method_5_code 0 = .ok (.invokestatic 39, 3) := by decide +kernel
theorem own_d16_3 : decode prog_16_method_5_code 3 = .ok (.astore_n 1, 1) := by decide +kernel
theorem own_d16_4 : decode prog_16_method_5_code 4 = .ok (.aload_n 1, 1) := by decide +kernel
theorem own_d16_5 : decode prog_16_method_5_code 5 = .ok (.arraylength, 1) := by decide +kernel
theorem own_d16_6 : decode prog_16_method_5_code 6 = .ok (.istore_n 2, 1) := by decide +kernel
theorem own_d16_7 : decode prog_16_method_5_code 7 = .ok (.iconst 0, 1) := by decide +kernel
theorem own_d16_8 : decode prog_16_method_5_code 8 = .ok (.istore_n 3, 1) := by decide +kernel
theorem own_d16_9 : decode prog_16_method_5_code 9 = .ok (.iload_n 3, 1) := by decide +kernel
theorem own_d16_10 : decode prog_16_method_5_code 10 = .ok (.iload_n 2, 1) := by decide +kernel
theorem own_d16_11 : decode prog_16_method_5_code 11 = .ok (.if_icmp .ge 29, 3) := by decide +kernel
theorem own_d16_14 : decode prog_16_method_5_code 14 = .ok (.aload_n 1, 1) := by decide +kernel
theorem own_d16_15 : decode prog_16_method_5_code 15 = .ok (.iload_n 3, 1) := by decide +kernel
theorem own_d16_16 : decode prog_16_method_5_code 16 = .ok (.aaload, 1) := by decide +kernel
theorem own_d16_17 : decode prog_16_method_5_code 17 = .ok (.astore 4, 2) := by decide +kernel
theorem own_d16_19 : decode prog_16_method_5_code 19 = .ok (.aload 4, 2) := by decide +kernel
theorem own_d16_21 : decode prog_16_method_5_code 21 = .ok (.getfield 35, 3) := by decide +kernel
theorem own_d16_24 : decode prog_16_method_5_code 24 = .ok (.aload_n 0, 1) := by decide +kernel
theorem own_d16_25 : decode prog_16_method_5_code 25 = .ok (.invokevirtual 43, 3) := by decide +kernel
theorem own_d16_28 : decode prog_16_method_5_code 28 = .ok (.ifCond .eq 6, 3) := by decide +kernel
theorem own_d16_31 : decode prog_16_method_5_code 31 = .ok (.aload 4, 2) := by decide +kernel
theorem own_d16_33 : decode prog_16_method_5_code 33 = .ok (.areturn, 1) := by decide +kernel
theorem own_d16_34 : decode prog_16_method_5_code 34 = .ok (.iinc 3 1, 3) := by decide +kernel
theorem own_d16_37 : decode prog_16_method_5_code 37 = .ok (.goto (-28), 3) := by decide +kernel
theorem own_d16_40 : decode prog_16_method_5_code 40 = .ok (.aconst_null, 1) := by decide +kernel
theorem own_d16_41 : decode prog_16_method_5_code 41 = .ok (.areturn, 1) := by decide +kernel
theorem own_ef16 (m : MethodId) (x0 : Addr) : entryFrame m #[(.ref x0)] 5 = mkF m 0 #[.val (.ref x0), .unset, .unset, .unset, .unset] [] := by first | (simp [entryFrame, mkF, argsToLocals, Value.category]; done) | rfl
def own_Q_own_ofE (Z : State) (sg : Addr) (bv : Addr) (kb : ClassId) (cs : List Int32) (cz : Int32) (va : Addr) (kv : ClassId) (w0 : Addr) (w1 : Addr) (w2 : Addr) (w3 : Addr) (sg0 : Addr) (bv0 : Addr) (kb0 : ClassId) (sg1 : Addr) (bv1 : Addr) (kb1 : ClassId) (sg2 : Addr) (bv2 : Addr) (kb2 : ClassId) (sg3 : Addr) (bv3 : Addr) (kb3 : ClassId) (h0 : Heap) (n0 : Nat) (v : Option Value) (h : Heap) (L : List Loc) : Prop := v = some (own_kind w0 w1 w2 w3 cs) ∧ Fr n0 L ∧ Keep h0 h []
set_option maxRecDepth 65536 in
set_option maxHeartbeats 40000000 in
theorem own_ofE (l : Launch) (Z : State) (a0 : Array Value) (hw : ∀ d ∈ tables_1, d.before a0 Z = true) (ws : List Jvm.Cond) (sg : Addr) (bv : Addr) (kb : ClassId) (cs : List Int32) (cz : Int32) (va : Addr) (kv : ClassId) (w0 : Addr) (w1 : Addr) (w2 : Addr) (w3 : Addr) (sg0 : Addr) (bv0 : Addr) (kb0 : ClassId) (sg1 : Addr) (bv1 : Addr) (kb1 : ClassId) (sg2 : Addr) (bv2 : Addr) (kb2 : ClassId) (sg3 : Addr) (bv3 : Addr) (kb3 : ClassId) (h0 : Heap) (n0 : Nat) (Z0 : n0 ≤ h0.size) (Es : Exa Z h0 sg "java/lang/String") (Fc : Fld Z h0 sg "java/lang/String" "coder" "B" (.int 0)) (Fv : Fld Z h0 sg "java/lang/String" "value" "[B" (.ref bv)) (Vb : Arv Z h0 bv kb .byte (Int32.ofNat cs.length) (List.map (fun c => Value.int (StrChars.lo8 c)) cs) (.int 0)) (ok : own_ok cs) (ln : cs.length ≤ 4000) (S : Sta Z h0 "java/lang/String" "COMPACT_STRINGS" "Z" (.int cz)) (hcz : ¬ cz = 0) (S_V : Sta Z h0 "com/example/millrace/millrace/definition/NodeKind" "$VALUES" "[Lcom/example/millrace/millrace/definition/NodeKind;" (.ref va)) (VV : Arv Z h0 va kv (.object "com/example/millrace/millrace/definition/NodeKind") (4 : Int32) [(.ref w0), (.ref w1), (.ref w2), (.ref w3)] .null) (EV : Exa Z h0 va "[Lcom/example/millrace/millrace/definition/NodeKind;") (Fe0 : Fld Z h0 w0 "com/example/millrace/millrace/definition/NodeKind" "element" "Ljava/lang/String;" (.ref sg0)) (Es0 : Exa Z h0 sg0 "java/lang/String") (Fc0 : Fld Z h0 sg0 "java/lang/String" "coder" "B" (.int 0)) (Fv0 : Fld Z h0 sg0 "java/lang/String" "value" "[B" (.ref bv0)) (Vb0 : Arv Z h0 bv0 kb0 .byte (Int32.ofNat (own_S 0).length) (List.map (fun c => Value.int (StrChars.lo8 c)) (own_S 0)) (.int 0)) (Fe1 : Fld Z h0 w1 "com/example/millrace/millrace/definition/NodeKind" "element" "Ljava/lang/String;" (.ref sg1)) (Es1 : Exa Z h0 sg1 "java/lang/String") (Fc1 : Fld Z h0 sg1 "java/lang/String" "coder" "B" (.int 0)) (Fv1 : Fld Z h0 sg1 "java/lang/String" "value" "[B" (.ref bv1)) (Vb1 : Arv Z h0 bv1 kb1 .byte (Int32.ofNat (own_S 1).length) (List.map (fun c => Value.int (StrChars.lo8 c)) (own_S 1)) (.int 0)) (Fe2 : Fld Z h0 w2 "com/example/millrace/millrace/definition/NodeKind" "element" "Ljava/lang/String;" (.ref sg2)) (Es2 : Exa Z h0 sg2 "java/lang/String") (Fc2 : Fld Z h0 sg2 "java/lang/String" "coder" "B" (.int 0)) (Fv2 : Fld Z h0 sg2 "java/lang/String" "value" "[B" (.ref bv2)) (Vb2 : Arv Z h0 bv2 kb2 .byte (Int32.ofNat (own_S 2).length) (List.map (fun c => Value.int (StrChars.lo8 c)) (own_S 2)) (.int 0)) (Fe3 : Fld Z h0 w3 "com/example/millrace/millrace/definition/NodeKind" "element" "Ljava/lang/String;" (.ref sg3)) (Es3 : Exa Z h0 sg3 "java/lang/String") (Fc3 : Fld Z h0 sg3 "java/lang/String" "coder" "B" (.int 0)) (Fv3 : Fld Z h0 sg3 "java/lang/String" "value" "[B" (.ref bv3)) (Vb3 : Arv Z h0 bv3 kb3 .byte (Int32.ofNat (own_S 3).length) (List.map (fun c => Value.int (StrChars.lo8 c)) (own_S 3)) (.int 0)) :
    MetFree l (⟨"com/example/millrace/millrace/definition/NodeKind", "ofElement", "(Ljava/lang/String;)Lcom/example/millrace/millrace/definition/NodeKind;"⟩ : MethodName) (head1 (Jvm.Cond.code (⟨"com/example/millrace/millrace/definition/NodeKind", "ofElement", "(Ljava/lang/String;)Lcom/example/millrace/millrace/definition/NodeKind;"⟩ : MethodName) prog_16_method_5_code 5 (some (.object "com/example/millrace/millrace/definition/NodeKind")) :: ws) ({ frames := 2, cells := 1, slots := 4, locals := 28 } : Room)) (fun as_ U => as_ = #[(.ref sg)] ∧ Z.Warmed39 U.vm ∧ U.heap = h0) (fun _ _ _ _ _ => True) (fun _ U o U' => ∃ v L, o = .returned v ∧ own_Q_own_ofE Z sg bv kb cs cz va kv w0 w1 w2 w3 sg0 bv0 kb0 sg1 bv1 kb1 sg2 bv2 kb2 sg3 bv3 kb3 h0 n0 v U'.heap L ∧ FrameEnd U o U' L ({ frames := 2, cells := 1, slots := 4, locals := 28 } : Room).cells ({ frames := 2, cells := 1, slots := 4, locals := 28 } : Room).slots) := by
  refine MetFree.of_bodySF (plainFor_of_name own_pn1) hisR ?_
  intro p e s m args below meth c s₁ Bd hml0 hP hK
  obtain ⟨rfl, hZ, hh⟩ := hP
  have hx := Bd.exec
  have hby := Bd.bytes
  have hml : c.maxLocals = 5 := hml0
  have hown : s.vm.findClass "com/example/millrace/millrace/definition/NodeKind" = some m.cls := findClass_of_methodNamed Bd.named
  have hnm := (name_of_methodNamed Bd.named Bd.method).1
  have X0 : Stand p l e ({ frames := 2, cells := 1, slots := 4, locals := 28 } : Room) s m #[(.ref sg)] below meth c s₁ [] 0 0 := Stand.of_body Bd
  have e0 : s₁.heap = h0 := by rw [← hh, Bd.state]; rfl
  have N0 := Fr.nil n0
  have pre0 : ∀ t, Steps p.tables e below (s₁.setTop (mkF m 0 #[.val (.ref sg), .unset, .unset, .unset, .unset] [])) t → Steps p.tables e below (s₁.setTop (entryFrame m #[(.ref sg)] 5)) t := fun t k => castTop (own_ef16 m sg) k
  have KP := Keep.refl h0 ([] : List Addr)
  obtain ⟨_, _, ⟨T1, L1, k1, n1⟩, -, X1, ⟨Lc1, hQ1, l1, y1, z1⟩, st1⟩ := Jvm.LawKit.callS X0 hx (y := (⟨"com/example/millrace/millrace/definition/NodeKind", "values", "()[Lcom/example/millrace/millrace/definition/NodeKind;"⟩ : MethodName)) hown (mvT hZ (hw _ (own_m (i := 78) rfl))) (mvT hZ (hw _ (own_m (i := 79) rfl))) (mvT hZ (hw _ (own_m (i := 9) rfl))) (mvT hZ (hw _ (own_m (i := 80) rfl))) (by decide) (backOf (W := 0) (own_vals l Z a0 hw []  va kv w0 w1 w2 w3 h0 n0 Z0 S_V VV EV) hZ (hw _ (own_m (i := 80) rfl)) (hw _ (own_m (i := 9) rfl)) (by decide) (by decide)) (g := (mkF m 0 #[.val (.ref sg), .unset, .unset, .unset, .unset] [])) rfl (by rw [hml]; rfl) (argsL := []) (rest := []) (lenOf own_pd1 rfl) rfl (by show 2 * 0 + _ ≤ _; exact Nat.le_of_eq rfl) (hb hby own_d16_0) (fun _ _ => ⟨rfl, e0, (by decide : 0 + 1 ≤ _), (by decide : 0 + 4 ≤ _)⟩)
  dsimp only [Pt.U, Pt.locs, Pt.cells, Pt.slots] at X1 l1 y1 z1 st1 hQ1
  subst l1 y1 z1
  obtain ⟨b1, rfl, N1q, K1, VB1, sz1⟩ := hQ1
  have N1 := Fr.app N0 N1q
  have Es := Es.keep K1
  have Fc := Fc.keep K1 nin0
  have Fv := Fv.keep K1 nin0
  have Vb := Vb.keep K1 nin0
  have VV := VV.keep K1 nin0
  have EV := EV.keep K1
  have Fe0 := Fe0.keep K1 nin0
  have Es0 := Es0.keep K1
  have Fc0 := Fc0.keep K1 nin0
  have Fv0 := Fv0.keep K1 nin0
  have Vb0 := Vb0.keep K1 nin0
  have Fe1 := Fe1.keep K1 nin0
  have Es1 := Es1.keep K1
  have Fc1 := Fc1.keep K1 nin0
  have Fv1 := Fv1.keep K1 nin0
  have Vb1 := Vb1.keep K1 nin0
  have Fe2 := Fe2.keep K1 nin0
  have Es2 := Es2.keep K1
  have Fc2 := Fc2.keep K1 nin0
  have Fv2 := Fv2.keep K1 nin0
  have Vb2 := Vb2.keep K1 nin0
  have Fe3 := Fe3.keep K1 nin0
  have Es3 := Es3.keep K1
  have Fc3 := Fc3.keep K1 nin0
  have Fv3 := Fv3.keep K1 nin0
  have Vb3 := Vb3.keep K1 nin0
  have Z2 := Nat.le_trans Z0 K1.1
  have KP := KP.trans K1 all0
  have S := own_staK S K1
  obtain ⟨cl3, Ar3, q3, S3, M3, H3, G3⟩ := id VB1
  obtain ⟨cl4, Ar4, q4, S4, M4, H4, G4⟩ := id VB1
  have hin4 : ¬ ((0 : Int32) < 0 ∨ cl4.slots.size ≤ ((0 : Int32)).toNatClampNeg) := inb_of S4 ⟨by decide, by decide⟩
  obtain ⟨T5, X5, e5, st5⟩ := getF X1 hx hZ hown (host := "") (Or.inl (hw _ (own_m (i := 96) rfl))) Via.refl rfl Fe0 (g := (mkF m 21 #[.val (.ref sg), .val (.ref b1), .val (.int 4), .val (.int 0), .val (.ref w0)] [(.ref w0)])) rfl rfl (hb hby own_d16_21)
  have pre6 : ∀ t, Steps p.tables e below (T5.setTop (mkF m 24 #[.val (.ref sg), .val (.ref b1), .val (.int 4), .val (.int 0), .val (.ref w0)] [(.ref sg0)])) t → Steps p.tables e below (s₁.setTop (entryFrame m #[(.ref sg)] 5)) t := fun t k => pre0 t (by
    show Steps p.tables e below (s₁.setTop (mkF m 0 #[.val (.ref sg), .unset, .unset, .unset, .unset] [])) _
    refine st1 _ ?_
    show Steps p.tables e below (T1.setTop (mkF m 3 #[.val (.ref sg), .unset, .unset, .unset, .unset] [(.ref b1)])) _
    refine XS.astoreN X1.here hx rfl (hb hby own_d16_3) rfl rfl (l' := #[.val (.ref sg), .val (.ref b1), .unset, .unset, .unset]) rfl ?_
    show Steps p.tables e below (T1.setTop (mkF m 4 #[.val (.ref sg), .val (.ref b1), .unset, .unset, .unset] [])) _
    refine XS.aloadN X1.here hx rfl (hb hby own_d16_4) rfl rfl ?_
    show Steps p.tables e below (T1.setTop (mkF m 5 #[.val (.ref sg), .val (.ref b1), .unset, .unset, .unset] [(.ref b1)])) _
    refine X1.arraylength hx Ar3.1 (State.isArrayOf_alike hZ.alike Ar3.2.1) (g := (mkF m 5 #[.val (.ref sg), .val (.ref b1), .unset, .unset, .unset] [(.ref b1)])) rfl rfl (hb hby own_d16_5) _ ?_
    rw [len_of S3 M3]
    show Steps p.tables e below (T1.setTop (mkF m 6 #[.val (.ref sg), .val (.ref b1), .unset, .unset, .unset] [(.int 4)])) _
    refine XS.istoreN X1.here hx rfl (hb hby own_d16_6) rfl (l' := #[.val (.ref sg), .val (.ref b1), .val (.int 4), .unset, .unset]) rfl ?_
    show Steps p.tables e below (T1.setTop (mkF m 7 #[.val (.ref sg), .val (.ref b1), .val (.int 4), .unset, .unset] [])) _
    refine XS.iconst X1.here hx rfl (hb hby own_d16_7) ?_
    show Steps p.tables e below (T1.setTop (mkF m 8 #[.val (.ref sg), .val (.ref b1), .val (.int 4), .unset, .unset] [(.int 0)])) _
    refine XS.istoreN X1.here hx rfl (hb hby own_d16_8) rfl (l' := #[.val (.ref sg), .val (.ref b1), .val (.int 4), .val (.int 0), .unset]) rfl ?_
    show Steps p.tables e below (T1.setTop (mkF m 9 #[.val (.ref sg), .val (.ref b1), .val (.int 4), .val (.int 0), .unset] [])) _
    refine XS.iloadN X1.here hx rfl (hb hby own_d16_9) rfl ?_
    show Steps p.tables e below (T1.setTop (mkF m 10 #[.val (.ref sg), .val (.ref b1), .val (.int 4), .val (.int 0), .unset] [(.int 0)])) _
    refine XS.iloadN X1.here hx rfl (hb hby own_d16_10) rfl ?_
    show Steps p.tables e below (T1.setTop (mkF m 11 #[.val (.ref sg), .val (.ref b1), .val (.int 4), .val (.int 0), .unset] [(.int 4), (.int 0)])) _
    refine XS.icmpNo X1.here hx rfl (hb hby own_d16_11) rfl (tlt (by decide : (0 : Int32) < (4 : Int32))).2.1 ?_
    show Steps p.tables e below (T1.setTop (mkF m 14 #[.val (.ref sg), .val (.ref b1), .val (.int 4), .val (.int 0), .unset] [])) _
    refine XS.aloadN X1.here hx rfl (hb hby own_d16_14) rfl rfl ?_
    show Steps p.tables e below (T1.setTop (mkF m 15 #[.val (.ref sg), .val (.ref b1), .val (.int 4), .val (.int 0), .unset] [(.ref b1)])) _
    refine XS.iloadN X1.here hx rfl (hb hby own_d16_15) rfl ?_
    show Steps p.tables e below (T1.setTop (mkF m 16 #[.val (.ref sg), .val (.ref b1), .val (.int 4), .val (.int 0), .unset] [(.int 0), (.ref b1)])) _
    refine X1.aaload hx (j := (0 : Int32)) (v := (.ref w0)) Ar4.1 (State.isArrayOf_alike hZ.alike Ar4.2.1) rfl Ar4.2.2 hin4 (H4.at hin4 rfl) (g := (mkF m 16 #[.val (.ref sg), .val (.ref b1), .val (.int 4), .val (.int 0), .unset] [(.int 0), (.ref b1)])) rfl rfl (hb hby own_d16_16) _ ?_
    show Steps p.tables e below (T1.setTop (mkF m 17 #[.val (.ref sg), .val (.ref b1), .val (.int 4), .val (.int 0), .unset] [(.ref w0)])) _
    refine XS.astore X1.here hx rfl (hb hby own_d16_17) rfl rfl (l' := #[.val (.ref sg), .val (.ref b1), .val (.int 4), .val (.int 0), .val (.ref w0)]) rfl ?_
    show Steps p.tables e below (T1.setTop (mkF m 19 #[.val (.ref sg), .val (.ref b1), .val (.int 4), .val (.int 0), .val (.ref w0)] [])) _
    refine XS.aload X1.here hx rfl (hb hby own_d16_19) rfl rfl ?_
    show Steps p.tables e below (T1.setTop (mkF m 21 #[.val (.ref sg), .val (.ref b1), .val (.int 4), .val (.int 0), .val (.ref w0)] [(.ref w0)])) _
    refine st5 _ ?_
    exact k)
  by_cases hc7 : own_S 0 = cs
  · skip
    obtain ⟨cq8, kq8, q8a, q8b, q8c⟩ := isOf hZ e5 Es0
    obtain ⟨_, _, ⟨T8, L8, k8, n8⟩, -, X8, ⟨Lc8, hQ8, l8, y8, z8⟩, st8⟩ := X5.virtualBack hx (y := (⟨"java/lang/String", "equals", "(Ljava/lang/Object;)Z"⟩ : MethodName)) (z := (⟨"java/lang/String", "equals", "(Ljava/lang/Object;)Z"⟩ : MethodName)) hown (mvT hZ (hw _ (own_m (i := 98) rfl))) (mvT hZ (hw _ (own_m (i := 99) rfl))) (notFace_of_selects (args := #[]) (mvT hZ (hw _ (own_m (i := 101) rfl)))) (mvT hZ (hw _ (own_m (i := 101) rfl))) (mvT hZ (hw _ (own_m (i := 100) rfl))) (by decide) (StrChars.Road.eqW (W := 0) hZ (fun d hd => hw d ((by decide +kernel : ∀ d ∈ StrChars.Road.wordsEq, d ∈ tables_1) d hd)) (kI := 4) (hw _ (own_m (i := 2) rfl)) Es0 Fv0 Fc0 Vb0 (Or.inl ⟨rfl, rfl, rfl, fun c hc => (own_okS 0 c hc).2⟩ : StrChars.Road.CodA (own_S 0) 0 (Int32.ofNat (own_S 0).length) (List.map (fun c => Value.int (StrChars.lo8 c)) (own_S 0))) (own_up _ (own_okS 0)) (by decide) Es Fv Fc Vb (Or.inl ⟨rfl, rfl, rfl, fun c hc => (ok c hc).2⟩ : StrChars.Road.CodA cs 0 (Int32.ofNat cs.length) (List.map (fun c => Value.int (StrChars.lo8 c)) cs)) (own_up _ ok) ln S hcz (by decide) (by decide)) q8a q8c (g := (mkF m 25 #[.val (.ref sg), .val (.ref b1), .val (.int 4), .val (.int 0), .val (.ref w0)] [(.ref sg), (.ref sg0)])) rfl (by rw [hml]; rfl) (Steps.refl _) (argsL := [(.ref sg)]) (rest := []) (lenOf own_pd2 rfl) rfl (by show 2 * 0 + _ ≤ _; exact Nat.le_of_eq rfl) (hb hby own_d16_25) (fun _ _ => ⟨rfl, e5, (by decide : 1 + 0 ≤ _), (by decide : 4 + 0 ≤ _)⟩)
    dsimp only [Pt.U, Pt.locs, Pt.cells, Pt.slots] at X8 l8 y8 z8 st8 hQ8
    subst l8 y8 z8
    obtain ⟨hv8, rfl, e8⟩ := hQ8
    obtain rfl := (hv8.resolve_right (fun q_ => q_.2 hc7)).1
    have N8q := Fr.nil n0
    have N8 := Fr.app N1 N8q
    obtain ⟨fs, hr, hrun, hended, hW, hsame⟩ := X8.leave (v := some (.ref w0)) (fun h => by rw [Bd.returns] at h; cases h)
    refine ⟨_, _, pre6 _ ?_, hrun, hended, _, _, rfl, ?_, ⟨_, rfl⟩, hW, hsame.mono (by decide) (by decide)⟩
    · show Steps p.tables e below (T5.setTop (mkF m 24 #[.val (.ref sg), .val (.ref b1), .val (.int 4), .val (.int 0), .val (.ref w0)] [(.ref sg0)])) _
      refine XS.aloadN X5.here hx rfl (hb hby own_d16_24) rfl rfl ?_
      show Steps p.tables e below (T5.setTop (mkF m 25 #[.val (.ref sg), .val (.ref b1), .val (.int 4), .val (.int 0), .val (.ref w0)] [(.ref sg), (.ref sg0)])) _
      refine st8.trans ?_
      show Steps p.tables e below (T8.setTop (mkF m 28 #[.val (.ref sg), .val (.ref b1), .val (.int 4), .val (.int 0), .val (.ref w0)] [(.int 1)])) _
      refine XS.ifNo X8.here hx rfl (hb hby own_d16_28) rfl ((if0 _ _).trans (feq (by decide : ¬ ((1 : Int32) = (0 : Int32)))).1) ?_
      show Steps p.tables e below (T8.setTop (mkF m 31 #[.val (.ref sg), .val (.ref b1), .val (.int 4), .val (.int 0), .val (.ref w0)] [])) _
      refine XS.aload X8.here hx rfl (hb hby own_d16_31) rfl rfl ?_
      show Steps p.tables e below (T8.setTop (mkF m 33 #[.val (.ref sg), .val (.ref b1), .val (.int 4), .val (.int 0), .val (.ref w0)] [(.ref w0)])) _
      exact retOut X8 hx (t := (.object "com/example/millrace/millrace/definition/NodeKind")) Bd.returns rfl (Or.inr (Or.inr (Or.inr (Or.inr ⟨rfl, rfl, rfl⟩)))) (hb hby own_d16_33) hr
    · show own_Q_own_ofE Z sg bv kb cs cz va kv w0 w1 w2 w3 sg0 bv0 kb0 sg1 bv1 kb1 sg2 bv2 kb2 sg3 bv3 kb3 h0 n0 _ T8.heap _
      rw [e8]
      exact ⟨by unfold own_kind; rw [if_pos hc7], N8, KP⟩
  · skip
    obtain ⟨cq9, kq9, q9a, q9b, q9c⟩ := isOf hZ e5 Es0
    obtain ⟨_, _, ⟨T9, L9, k9, n9⟩, -, X9, ⟨Lc9, hQ9, l9, y9, z9⟩, st9⟩ := X5.virtualBack hx (y := (⟨"java/lang/String", "equals", "(Ljava/lang/Object;)Z"⟩ : MethodName)) (z := (⟨"java/lang/String", "equals", "(Ljava/lang/Object;)Z"⟩ : MethodName)) hown (mvT hZ (hw _ (own_m (i := 98) rfl))) (mvT hZ (hw _ (own_m (i := 99) rfl))) (notFace_of_selects (args := #[]) (mvT hZ (hw _ (own_m (i := 101) rfl)))) (mvT hZ (hw _ (own_m (i := 101) rfl))) (mvT hZ (hw _ (own_m (i := 100) rfl))) (by decide) (StrChars.Road.eqW (W := 0) hZ (fun d hd => hw d ((by decide +kernel : ∀ d ∈ StrChars.Road.wordsEq, d ∈ tables_1) d hd)) (kI := 4) (hw _ (own_m (i := 2) rfl)) Es0 Fv0 Fc0 Vb0 (Or.inl ⟨rfl, rfl, rfl, fun c hc => (own_okS 0 c hc).2⟩ : StrChars.Road.CodA (own_S 0) 0 (Int32.ofNat (own_S 0).length) (List.map (fun c => Value.int (StrChars.lo8 c)) (own_S 0))) (own_up _ (own_okS 0)) (by decide) Es Fv Fc Vb (Or.inl ⟨rfl, rfl, rfl, fun c hc => (ok c hc).2⟩ : StrChars.Road.CodA cs 0 (Int32.ofNat cs.length) (List.map (fun c => Value.int (StrChars.lo8 c)) cs)) (own_up _ ok) ln S hcz (by decide) (by decide)) q9a q9c (g := (mkF m 25 #[.val (.ref sg), .val (.ref b1), .val (.int 4), .val (.int 0), .val (.ref w0)] [(.ref sg), (.ref sg0)])) rfl (by rw [hml]; rfl) (Steps.refl _) (argsL := [(.ref sg)]) (rest := []) (lenOf own_pd2 rfl) rfl (by show 2 * 0 + _ ≤ _; exact Nat.le_of_eq rfl) (hb hby own_d16_25) (fun _ _ => ⟨rfl, e5, (by decide : 1 + 0 ≤ _), (by decide : 4 + 0 ≤ _)⟩)
    dsimp only [Pt.U, Pt.locs, Pt.cells, Pt.slots] at X9 l9 y9 z9 st9 hQ9
    subst l9 y9 z9
    obtain ⟨hv9, rfl, e9⟩ := hQ9
    obtain rfl := (hv9.resolve_left (fun q_ => hc7 q_.2)).1
    have N9q := Fr.nil n0
    have N9 := Fr.app N1 N9q
    obtain ⟨cl10, Ar10, q10, S10, M10, H10, G10⟩ := id VB1
    have hin10 : ¬ ((1 : Int32) < 0 ∨ cl10.slots.size ≤ ((1 : Int32)).toNatClampNeg) := inb_of S10 ⟨by decide, by decide⟩
    obtain ⟨T11, X11, e11, st11⟩ := getF X9 hx hZ hown (host := "") (Or.inl (hw _ (own_m (i := 96) rfl))) Via.refl e9 Fe1 (g := (mkF m 21 #[.val (.ref sg), .val (.ref b1), .val (.int 4), .val (.int 1), .val (.ref w1)] [(.ref w1)])) rfl rfl (hb hby own_d16_21)
    have pre12 : ∀ t, Steps p.tables e below (T11.setTop (mkF m 24 #[.val (.ref sg), .val (.ref b1), .val (.int 4), .val (.int 1), .val (.ref w1)] [(.ref sg1)])) t → Steps p.tables e below (s₁.setTop (entryFrame m #[(.ref sg)] 5)) t := fun t k => pre6 t (by
      show Steps p.tables e below (T5.setTop (mkF m 24 #[.val (.ref sg), .val (.ref b1), .val (.int 4), .val (.int 0), .val (.ref w0)] [(.ref sg0)])) _
      refine XS.aloadN X5.here hx rfl (hb hby own_d16_24) rfl rfl ?_
      show Steps p.tables e below (T5.setTop (mkF m 25 #[.val (.ref sg), .val (.ref b1), .val (.int 4), .val (.int 0), .val (.ref w0)] [(.ref sg), (.ref sg0)])) _
      refine st9.trans ?_
      show Steps p.tables e below (T9.setTop (mkF m 28 #[.val (.ref sg), .val (.ref b1), .val (.int 4), .val (.int 0), .val (.ref w0)] [(.int 0)])) _
      refine XS.ifYes X9.here hx rfl (pc0 := 28) (pc' := 34) rfl (hb hby own_d16_28) rfl ((if0 _ _).trans (teq (by decide : (0 : Int32) = (0 : Int32))).1) (by decide) (by decide) ?_
      show Steps p.tables e below (T9.setTop (mkF m 34 #[.val (.ref sg), .val (.ref b1), .val (.int 4), .val (.int 0), .val (.ref w0)] [])) _
      refine XS.iinc X9.here hx rfl (hb hby own_d16_34) rfl (l' := #[.val (.ref sg), .val (.ref b1), .val (.int 4), .val (.int 1), .val (.ref w0)]) rfl ?_
      show Steps p.tables e below (T9.setTop (mkF m 37 #[.val (.ref sg), .val (.ref b1), .val (.int 4), .val (.int 1), .val (.ref w0)] [])) _
      refine XS.goto X9.here hx rfl (pc0 := 37) (pc' := 9) rfl (hb hby own_d16_37) (by decide) (by decide) ?_
      show Steps p.tables e below (T9.setTop (mkF m 9 #[.val (.ref sg), .val (.ref b1), .val (.int 4), .val (.int 1), .val (.ref w0)] [])) _
      refine XS.iloadN X9.here hx rfl (hb hby own_d16_9) rfl ?_
      show Steps p.tables e below (T9.setTop (mkF m 10 #[.val (.ref sg), .val (.ref b1), .val (.int 4), .val (.int 1), .val (.ref w0)] [(.int 1)])) _
      refine XS.iloadN X9.here hx rfl (hb hby own_d16_10) rfl ?_
      show Steps p.tables e below (T9.setTop (mkF m 11 #[.val (.ref sg), .val (.ref b1), .val (.int 4), .val (.int 1), .val (.ref w0)] [(.int 4), (.int 1)])) _
      refine XS.icmpNo X9.here hx rfl (hb hby own_d16_11) rfl (tlt (by decide : (1 : Int32) < (4 : Int32))).2.1 ?_
      show Steps p.tables e below (T9.setTop (mkF m 14 #[.val (.ref sg), .val (.ref b1), .val (.int 4), .val (.int 1), .val (.ref w0)] [])) _
      refine XS.aloadN X9.here hx rfl (hb hby own_d16_14) rfl rfl ?_
      show Steps p.tables e below (T9.setTop (mkF m 15 #[.val (.ref sg), .val (.ref b1), .val (.int 4), .val (.int 1), .val (.ref w0)] [(.ref b1)])) _
      refine XS.iloadN X9.here hx rfl (hb hby own_d16_15) rfl ?_
      show Steps p.tables e below (T9.setTop (mkF m 16 #[.val (.ref sg), .val (.ref b1), .val (.int 4), .val (.int 1), .val (.ref w0)] [(.int 1), (.ref b1)])) _
      refine X9.aaload hx (j := (1 : Int32)) (v := (.ref w1)) (by rw [e9]; exact Ar10.1) (State.isArrayOf_alike hZ.alike Ar10.2.1) rfl Ar10.2.2 hin10 (H10.at hin10 rfl) (g := (mkF m 16 #[.val (.ref sg), .val (.ref b1), .val (.int 4), .val (.int 1), .val (.ref w0)] [(.int 1), (.ref b1)])) rfl rfl (hb hby own_d16_16) _ ?_
      show Steps p.tables e below (T9.setTop (mkF m 17 #[.val (.ref sg), .val (.ref b1), .val (.int 4), .val (.int 1), .val (.ref w0)] [(.ref w1)])) _
      refine XS.astore X9.here hx rfl (hb hby own_d16_17) rfl rfl (l' := #[.val (.ref sg), .val (.ref b1), .val (.int 4), .val (.int 1), .val (.ref w1)]) rfl ?_
      show Steps p.tables e below (T9.setTop (mkF m 19 #[.val (.ref sg), .val (.ref b1), .val (.int 4), .val (.int 1), .val (.ref w1)] [])) _
      refine XS.aload X9.here hx rfl (hb hby own_d16_19) rfl rfl ?_
      show Steps p.tables e below (T9.setTop (mkF m 21 #[.val (.ref sg), .val (.ref b1), .val (.int 4), .val (.int 1), .val (.ref w1)] [(.ref w1)])) _
      refine st11 _ ?_
      exact k)
    by_cases hc13 : own_S 1 = cs
    · skip
      obtain ⟨cq14, kq14, q14a, q14b, q14c⟩ := isOf hZ e11 Es1
      obtain ⟨_, _, ⟨T14, L14, k14, n14⟩, -, X14, ⟨Lc14, hQ14, l14, y14, z14⟩, st14⟩ := X11.virtualBack hx (y := (⟨"java/lang/String", "equals", "(Ljava/lang/Object;)Z"⟩ : MethodName)) (z := (⟨"java/lang/String", "equals", "(Ljava/lang/Object;)Z"⟩ : MethodName)) hown (mvT hZ (hw _ (own_m (i := 98) rfl))) (mvT hZ (hw _ (own_m (i := 99) rfl))) (notFace_of_selects (args := #[]) (mvT hZ (hw _ (own_m (i := 101) rfl)))) (mvT hZ (hw _ (own_m (i := 101) rfl))) (mvT hZ (hw _ (own_m (i := 100) rfl))) (by decide) (StrChars.Road.eqW (W := 0) hZ (fun d hd => hw d ((by decide +kernel : ∀ d ∈ StrChars.Road.wordsEq, d ∈ tables_1) d hd)) (kI := 4) (hw _ (own_m (i := 2) rfl)) Es1 Fv1 Fc1 Vb1 (Or.inl ⟨rfl, rfl, rfl, fun c hc => (own_okS 1 c hc).2⟩ : StrChars.Road.CodA (own_S 1) 0 (Int32.ofNat (own_S 1).length) (List.map (fun c => Value.int (StrChars.lo8 c)) (own_S 1))) (own_up _ (own_okS 1)) (by decide) Es Fv Fc Vb (Or.inl ⟨rfl, rfl, rfl, fun c hc => (ok c hc).2⟩ : StrChars.Road.CodA cs 0 (Int32.ofNat cs.length) (List.map (fun c => Value.int (StrChars.lo8 c)) cs)) (own_up _ ok) ln S hcz (by decide) (by decide)) q14a q14c (g := (mkF m 25 #[.val (.ref sg), .val (.ref b1), .val (.int 4), .val (.int 1), .val (.ref w1)] [(.ref sg), (.ref sg1)])) rfl (by rw [hml]; rfl) (Steps.refl _) (argsL := [(.ref sg)]) (rest := []) (lenOf own_pd2 rfl) rfl (by show 2 * 0 + _ ≤ _; exact Nat.le_of_eq rfl) (hb hby own_d16_25) (fun _ _ => ⟨rfl, e11, (by decide : 1 + 0 ≤ _), (by decide : 4 + 0 ≤ _)⟩)
      dsimp only [Pt.U, Pt.locs, Pt.cells, Pt.slots] at X14 l14 y14 z14 st14 hQ14
      subst l14 y14 z14
      obtain ⟨hv14, rfl, e14⟩ := hQ14
      obtain rfl := (hv14.resolve_right (fun q_ => q_.2 hc13)).1
      have N14q := Fr.nil n0
      have N14 := Fr.app N9 N14q
      obtain ⟨fs, hr, hrun, hended, hW, hsame⟩ := X14.leave (v := some (.ref w1)) (fun h => by rw [Bd.returns] at h; cases h)
      refine ⟨_, _, pre12 _ ?_, hrun, hended, _, _, rfl, ?_, ⟨_, rfl⟩, hW, hsame.mono (by decide) (by decide)⟩
      · show Steps p.tables e below (T11.setTop (mkF m 24 #[.val (.ref sg), .val (.ref b1), .val (.int 4), .val (.int 1), .val (.ref w1)] [(.ref sg1)])) _
        refine XS.aloadN X11.here hx rfl (hb hby own_d16_24) rfl rfl ?_
        show Steps p.tables e below (T11.setTop (mkF m 25 #[.val (.ref sg), .val (.ref b1), .val (.int 4), .val (.int 1), .val (.ref w1)] [(.ref sg), (.ref sg1)])) _
        refine st14.trans ?_
        show Steps p.tables e below (T14.setTop (mkF m 28 #[.val (.ref sg), .val (.ref b1), .val (.int 4), .val (.int 1), .val (.ref w1)] [(.int 1)])) _
        refine XS.ifNo X14.here hx rfl (hb hby own_d16_28) rfl ((if0 _ _).trans (feq (by decide : ¬ ((1 : Int32) = (0 : Int32)))).1) ?_
        show Steps p.tables e below (T14.setTop (mkF m 31 #[.val (.ref sg), .val (.ref b1), .val (.int 4), .val (.int 1), .val (.ref w1)] [])) _
        refine XS.aload X14.here hx rfl (hb hby own_d16_31) rfl rfl ?_
        show Steps p.tables e below (T14.setTop (mkF m 33 #[.val (.ref sg), .val (.ref b1), .val (.int 4), .val (.int 1), .val (.ref w1)] [(.ref w1)])) _
        exact retOut X14 hx (t := (.object "com/example/millrace/millrace/definition/NodeKind")) Bd.returns rfl (Or.inr (Or.inr (Or.inr (Or.inr ⟨rfl, rfl, rfl⟩)))) (hb hby own_d16_33) hr
      · show own_Q_own_ofE Z sg bv kb cs cz va kv w0 w1 w2 w3 sg0 bv0 kb0 sg1 bv1 kb1 sg2 bv2 kb2 sg3 bv3 kb3 h0 n0 _ T14.heap _
        rw [e14]
        exact ⟨by unfold own_kind; rw [if_neg hc7, if_pos hc13], N14, KP⟩
    · skip
      obtain ⟨cq15, kq15, q15a, q15b, q15c⟩ := isOf hZ e11 Es1
      obtain ⟨_, _, ⟨T15, L15, k15, n15⟩, -, X15, ⟨Lc15, hQ15, l15, y15, z15⟩, st15⟩ := X11.virtualBack hx (y := (⟨"java/lang/String", "equals", "(Ljava/lang/Object;)Z"⟩ : MethodName)) (z := (⟨"java/lang/String", "equals", "(Ljava/lang/Object;)Z"⟩ : MethodName)) hown (mvT hZ (hw _ (own_m (i := 98) rfl))) (mvT hZ (hw _ (own_m (i := 99) rfl))) (notFace_of_selects (args := #[]) (mvT hZ (hw _ (own_m (i := 101) rfl)))) (mvT hZ (hw _ (own_m (i := 101) rfl))) (mvT hZ (hw _ (own_m (i := 100) rfl))) (by decide) (StrChars.Road.eqW (W := 0) hZ (fun d hd => hw d ((by decide +kernel : ∀ d ∈ StrChars.Road.wordsEq, d ∈ tables_1) d hd)) (kI := 4) (hw _ (own_m (i := 2) rfl)) Es1 Fv1 Fc1 Vb1 (Or.inl ⟨rfl, rfl, rfl, fun c hc => (own_okS 1 c hc).2⟩ : StrChars.Road.CodA (own_S 1) 0 (Int32.ofNat (own_S 1).length) (List.map (fun c => Value.int (StrChars.lo8 c)) (own_S 1))) (own_up _ (own_okS 1)) (by decide) Es Fv Fc Vb (Or.inl ⟨rfl, rfl, rfl, fun c hc => (ok c hc).2⟩ : StrChars.Road.CodA cs 0 (Int32.ofNat cs.length) (List.map (fun c => Value.int (StrChars.lo8 c)) cs)) (own_up _ ok) ln S hcz (by decide) (by decide)) q15a q15c (g := (mkF m 25 #[.val (.ref sg), .val (.ref b1), .val (.int 4), .val (.int 1), .val (.ref w1)] [(.ref sg), (.ref sg1)])) rfl (by rw [hml]; rfl) (Steps.refl _) (argsL := [(.ref sg)]) (rest := []) (lenOf own_pd2 rfl) rfl (by show 2 * 0 + _ ≤ _; exact Nat.le_of_eq rfl) (hb hby own_d16_25) (fun _ _ => ⟨rfl, e11, (by decide : 1 + 0 ≤ _), (by decide : 4 + 0 ≤ _)⟩)
      dsimp only [Pt.U, Pt.locs, Pt.cells, Pt.slots] at X15 l15 y15 z15 st15 hQ15
      subst l15 y15 z15
      obtain ⟨hv15, rfl, e15⟩ := hQ15
      obtain rfl := (hv15.resolve_left (fun q_ => hc13 q_.2)).1
      have N15q := Fr.nil n0
      have N15 := Fr.app N9 N15q
      obtain ⟨cl16, Ar16, q16, S16, M16, H16, G16⟩ := id VB1
      have hin16 : ¬ ((2 : Int32) < 0 ∨ cl16.slots.size ≤ ((2 : Int32)).toNatClampNeg) := inb_of S16 ⟨by decide, by decide⟩
      obtain ⟨T17, X17, e17, st17⟩ := getF X15 hx hZ hown (host := "") (Or.inl (hw _ (own_m (i := 96) rfl))) Via.refl e15 Fe2 (g := (mkF m 21 #[.val (.ref sg), .val (.ref b1), .val (.int 4), .val (.int 2), .val (.ref w2)] [(.ref w2)])) rfl rfl (hb hby own_d16_21)
      have pre18 : ∀ t, Steps p.tables e below (T17.setTop (mkF m 24 #[.val (.ref sg), .val (.ref b1), .val (.int 4), .val (.int 2), .val (.ref w2)] [(.ref sg2)])) t → Steps p.tables e below (s₁.setTop (entryFrame m #[(.ref sg)] 5)) t := fun t k => pre12 t (by
        show Steps p.tables e below (T11.setTop (mkF m 24 #[.val (.ref sg), .val (.ref b1), .val (.int 4), .val (.int 1), .val (.ref w1)] [(.ref sg1)])) _
        refine XS.aloadN X11.here hx rfl (hb hby own_d16_24) rfl rfl ?_
        show Steps p.tables e below (T11.setTop (mkF m 25 #[.val (.ref sg), .val (.ref b1), .val (.int 4), .val (.int 1), .val (.ref w1)] [(.ref sg), (.ref sg1)])) _
        refine st15.trans ?_
        show Steps p.tables e below (T15.setTop (mkF m 28 #[.val (.ref sg), .val (.ref b1), .val (.int 4), .val (.int 1), .val (.ref w1)] [(.int 0)])) _
        refine XS.ifYes X15.here hx rfl (pc0 := 28) (pc' := 34) rfl (hb hby own_d16_28) rfl ((if0 _ _).trans (teq (by decide : (0 : Int32) = (0 : Int32))).1) (by decide) (by decide) ?_
        show Steps p.tables e below (T15.setTop (mkF m 34 #[.val (.ref sg), .val (.ref b1), .val (.int 4), .val (.int 1), .val (.ref w1)] [])) _
        refine XS.iinc X15.here hx rfl (hb hby own_d16_34) rfl (l' := #[.val (.ref sg), .val (.ref b1), .val (.int 4), .val (.int 2), .val (.ref w1)]) rfl ?_
        show Steps p.tables e below (T15.setTop (mkF m 37 #[.val (.ref sg), .val (.ref b1), .val (.int 4), .val (.int 2), .val (.ref w1)] [])) _
        refine XS.goto X15.here hx rfl (pc0 := 37) (pc' := 9) rfl (hb hby own_d16_37) (by decide) (by decide) ?_
        show Steps p.tables e below (T15.setTop (mkF m 9 #[.val (.ref sg), .val (.ref b1), .val (.int 4), .val (.int 2), .val (.ref w1)] [])) _
        refine XS.iloadN X15.here hx rfl (hb hby own_d16_9) rfl ?_
        show Steps p.tables e below (T15.setTop (mkF m 10 #[.val (.ref sg), .val (.ref b1), .val (.int 4), .val (.int 2), .val (.ref w1)] [(.int 2)])) _
        refine XS.iloadN X15.here hx rfl (hb hby own_d16_10) rfl ?_
        show Steps p.tables e below (T15.setTop (mkF m 11 #[.val (.ref sg), .val (.ref b1), .val (.int 4), .val (.int 2), .val (.ref w1)] [(.int 4), (.int 2)])) _
        refine XS.icmpNo X15.here hx rfl (hb hby own_d16_11) rfl (tlt (by decide : (2 : Int32) < (4 : Int32))).2.1 ?_
        show Steps p.tables e below (T15.setTop (mkF m 14 #[.val (.ref sg), .val (.ref b1), .val (.int 4), .val (.int 2), .val (.ref w1)] [])) _
        refine XS.aloadN X15.here hx rfl (hb hby own_d16_14) rfl rfl ?_
        show Steps p.tables e below (T15.setTop (mkF m 15 #[.val (.ref sg), .val (.ref b1), .val (.int 4), .val (.int 2), .val (.ref w1)] [(.ref b1)])) _
        refine XS.iloadN X15.here hx rfl (hb hby own_d16_15) rfl ?_
        show Steps p.tables e below (T15.setTop (mkF m 16 #[.val (.ref sg), .val (.ref b1), .val (.int 4), .val (.int 2), .val (.ref w1)] [(.int 2), (.ref b1)])) _
        refine X15.aaload hx (j := (2 : Int32)) (v := (.ref w2)) (by rw [e15]; exact Ar16.1) (State.isArrayOf_alike hZ.alike Ar16.2.1) rfl Ar16.2.2 hin16 (H16.at hin16 rfl) (g := (mkF m 16 #[.val (.ref sg), .val (.ref b1), .val (.int 4), .val (.int 2), .val (.ref w1)] [(.int 2), (.ref b1)])) rfl rfl (hb hby own_d16_16) _ ?_
        show Steps p.tables e below (T15.setTop (mkF m 17 #[.val (.ref sg), .val (.ref b1), .val (.int 4), .val (.int 2), .val (.ref w1)] [(.ref w2)])) _
        refine XS.astore X15.here hx rfl (hb hby own_d16_17) rfl rfl (l' := #[.val (.ref sg), .val (.ref b1), .val (.int 4), .val (.int 2), .val (.ref w2)]) rfl ?_
        show Steps p.tables e below (T15.setTop (mkF m 19 #[.val (.ref sg), .val (.ref b1), .val (.int 4), .val (.int 2), .val (.ref w2)] [])) _
        refine XS.aload X15.here hx rfl (hb hby own_d16_19) rfl rfl ?_
        show Steps p.tables e below (T15.setTop (mkF m 21 #[.val (.ref sg), .val (.ref b1), .val (.int 4), .val (.int 2), .val (.ref w2)] [(.ref w2)])) _
        refine st17 _ ?_
        exact k)
      by_cases hc19 : own_S 2 = cs
      · skip
        obtain ⟨cq20, kq20, q20a, q20b, q20c⟩ := isOf hZ e17 Es2
        obtain ⟨_, _, ⟨T20, L20, k20, n20⟩, -, X20, ⟨Lc20, hQ20, l20, y20, z20⟩, st20⟩ := X17.virtualBack hx (y := (⟨"java/lang/String", "equals", "(Ljava/lang/Object;)Z"⟩ : MethodName)) (z := (⟨"java/lang/String", "equals", "(Ljava/lang/Object;)Z"⟩ : MethodName)) hown (mvT hZ (hw _ (own_m (i := 98) rfl))) (mvT hZ (hw _ (own_m (i := 99) rfl))) (notFace_of_selects (args := #[]) (mvT hZ (hw _ (own_m (i := 101) rfl)))) (mvT hZ (hw _ (own_m (i := 101) rfl))) (mvT hZ (hw _ (own_m (i := 100) rfl))) (by decide) (StrChars.Road.eqW (W := 0) hZ (fun d hd => hw d ((by decide +kernel : ∀ d ∈ StrChars.Road.wordsEq, d ∈ tables_1) d hd)) (kI := 4) (hw _ (own_m (i := 2) rfl)) Es2 Fv2 Fc2 Vb2 (Or.inl ⟨rfl, rfl, rfl, fun c hc => (own_okS 2 c hc).2⟩ : StrChars.Road.CodA (own_S 2) 0 (Int32.ofNat (own_S 2).length) (List.map (fun c => Value.int (StrChars.lo8 c)) (own_S 2))) (own_up _ (own_okS 2)) (by decide) Es Fv Fc Vb (Or.inl ⟨rfl, rfl, rfl, fun c hc => (ok c hc).2⟩ : StrChars.Road.CodA cs 0 (Int32.ofNat cs.length) (List.map (fun c => Value.int (StrChars.lo8 c)) cs)) (own_up _ ok) ln S hcz (by decide) (by decide)) q20a q20c (g := (mkF m 25 #[.val (.ref sg), .val (.ref b1), .val (.int 4), .val (.int 2), .val (.ref w2)] [(.ref sg), (.ref sg2)])) rfl (by rw [hml]; rfl) (Steps.refl _) (argsL := [(.ref sg)]) (rest := []) (lenOf own_pd2 rfl) rfl (by show 2 * 0 + _ ≤ _; exact Nat.le_of_eq rfl) (hb hby own_d16_25) (fun _ _ => ⟨rfl, e17, (by decide : 1 + 0 ≤ _), (by decide : 4 + 0 ≤ _)⟩)
        dsimp only [Pt.U, Pt.locs, Pt.cells, Pt.slots] at X20 l20 y20 z20 st20 hQ20
        subst l20 y20 z20
        obtain ⟨hv20, rfl, e20⟩ := hQ20
        obtain rfl := (hv20.resolve_right (fun q_ => q_.2 hc19)).1
        have N20q := Fr.nil n0
        have N20 := Fr.app N15 N20q
        obtain ⟨fs, hr, hrun, hended, hW, hsame⟩ := X20.leave (v := some (.ref w2)) (fun h => by rw [Bd.returns] at h; cases h)
        refine ⟨_, _, pre18 _ ?_, hrun, hended, _, _, rfl, ?_, ⟨_, rfl⟩, hW, hsame.mono (by decide) (by decide)⟩
        · show Steps p.tables e below (T17.setTop (mkF m 24 #[.val (.ref sg), .val (.ref b1), .val (.int 4), .val (.int 2), .val (.ref w2)] [(.ref sg2)])) _
          refine XS.aloadN X17.here hx rfl (hb hby own_d16_24) rfl rfl ?_
          show Steps p.tables e below (T17.setTop (mkF m 25 #[.val (.ref sg), .val (.ref b1), .val (.int 4), .val (.int 2), .val (.ref w2)] [(.ref sg), (.ref sg2)])) _
          refine st20.trans ?_
          show Steps p.tables e below (T20.setTop (mkF m 28 #[.val (.ref sg), .val (.ref b1), .val (.int 4), .val (.int 2), .val (.ref w2)] [(.int 1)])) _
          refine XS.ifNo X20.here hx rfl (hb hby own_d16_28) rfl ((if0 _ _).trans (feq (by decide : ¬ ((1 : Int32) = (0 : Int32)))).1) ?_
          show Steps p.tables e below (T20.setTop (mkF m 31 #[.val (.ref sg), .val (.ref b1), .val (.int 4), .val (.int 2), .val (.ref w2)] [])) _
          refine XS.aload X20.here hx rfl (hb hby own_d16_31) rfl rfl ?_
          show Steps p.tables e below (T20.setTop (mkF m 33 #[.val (.ref sg), .val (.ref b1), .val (.int 4), .val (.int 2), .val (.ref w2)] [(.ref w2)])) _
          exact retOut X20 hx (t := (.object "com/example/millrace/millrace/definition/NodeKind")) Bd.returns rfl (Or.inr (Or.inr (Or.inr (Or.inr ⟨rfl, rfl, rfl⟩)))) (hb hby own_d16_33) hr
        · show own_Q_own_ofE Z sg bv kb cs cz va kv w0 w1 w2 w3 sg0 bv0 kb0 sg1 bv1 kb1 sg2 bv2 kb2 sg3 bv3 kb3 h0 n0 _ T20.heap _
          rw [e20]
          exact ⟨by unfold own_kind; rw [if_neg hc7, if_neg hc13, if_pos hc19], N20, KP⟩
      · skip
        obtain ⟨cq21, kq21, q21a, q21b, q21c⟩ := isOf hZ e17 Es2
        obtain ⟨_, _, ⟨T21, L21, k21, n21⟩, -, X21, ⟨Lc21, hQ21, l21, y21, z21⟩, st21⟩ := X17.virtualBack hx (y := (⟨"java/lang/String", "equals", "(Ljava/lang/Object;)Z"⟩ : MethodName)) (z := (⟨"java/lang/String", "equals", "(Ljava/lang/Object;)Z"⟩ : MethodName)) hown (mvT hZ (hw _ (own_m (i := 98) rfl))) (mvT hZ (hw _ (own_m (i := 99) rfl))) (notFace_of_selects (args := #[]) (mvT hZ (hw _ (own_m (i := 101) rfl)))) (mvT hZ (hw _ (own_m (i := 101) rfl))) (mvT hZ (hw _ (own_m (i := 100) rfl))) (by decide) (StrChars.Road.eqW (W := 0) hZ (fun d hd => hw d ((by decide +kernel : ∀ d ∈ StrChars.Road.wordsEq, d ∈ tables_1) d hd)) (kI := 4) (hw _ (own_m (i := 2) rfl)) Es2 Fv2 Fc2 Vb2 (Or.inl ⟨rfl, rfl, rfl, fun c hc => (own_okS 2 c hc).2⟩ : StrChars.Road.CodA (own_S 2) 0 (Int32.ofNat (own_S 2).length) (List.map (fun c => Value.int (StrChars.lo8 c)) (own_S 2))) (own_up _ (own_okS 2)) (by decide) Es Fv Fc Vb (Or.inl ⟨rfl, rfl, rfl, fun c hc => (ok c hc).2⟩ : StrChars.Road.CodA cs 0 (Int32.ofNat cs.length) (List.map (fun c => Value.int (StrChars.lo8 c)) cs)) (own_up _ ok) ln S hcz (by decide) (by decide)) q21a q21c (g := (mkF m 25 #[.val (.ref sg), .val (.ref b1), .val (.int 4), .val (.int 2), .val (.ref w2)] [(.ref sg), (.ref sg2)])) rfl (by rw [hml]; rfl) (Steps.refl _) (argsL := [(.ref sg)]) (rest := []) (lenOf own_pd2 rfl) rfl (by show 2 * 0 + _ ≤ _; exact Nat.le_of_eq rfl) (hb hby own_d16_25) (fun _ _ => ⟨rfl, e17, (by decide : 1 + 0 ≤ _), (by decide : 4 + 0 ≤ _)⟩)
        dsimp only [Pt.U, Pt.locs, Pt.cells, Pt.slots] at X21 l21 y21 z21 st21 hQ21
        subst l21 y21 z21
        obtain ⟨hv21, rfl, e21⟩ := hQ21
        obtain rfl := (hv21.resolve_left (fun q_ => hc19 q_.2)).1
        have N21q := Fr.nil n0
        have N21 := Fr.app N15 N21q
        obtain ⟨cl22, Ar22, q22, S22, M22, H22, G22⟩ := id VB1
        have hin22 : ¬ ((3 : Int32) < 0 ∨ cl22.slots.size ≤ ((3 : Int32)).toNatClampNeg) := inb_of S22 ⟨by decide, by decide⟩
        obtain ⟨T23, X23, e23, st23⟩ := getF X21 hx hZ hown (host := "") (Or.inl (hw _ (own_m (i := 96) rfl))) Via.refl e21 Fe3 (g := (mkF m 21 #[.val (.ref sg), .val (.ref b1), .val (.int 4), .val (.int 3), .val (.ref w3)] [(.ref w3)])) rfl rfl (hb hby own_d16_21)
        have pre24 : ∀ t, Steps p.tables e below (T23.setTop (mkF m 24 #[.val (.ref sg), .val (.ref b1), .val (.int 4), .val (.int 3), .val (.ref w3)] [(.ref sg3)])) t → Steps p.tables e below (s₁.setTop (entryFrame m #[(.ref sg)] 5)) t := fun t k => pre18 t (by
          show Steps p.tables e below (T17.setTop (mkF m 24 #[.val (.ref sg), .val (.ref b1), .val (.int 4), .val (.int 2), .val (.ref w2)] [(.ref sg2)])) _
          refine XS.aloadN X17.here hx rfl (hb hby own_d16_24) rfl rfl ?_
          show Steps p.tables e below (T17.setTop (mkF m 25 #[.val (.ref sg), .val (.ref b1), .val (.int 4), .val (.int 2), .val (.ref w2)] [(.ref sg), (.ref sg2)])) _
          refine st21.trans ?_
          show Steps p.tables e below (T21.setTop (mkF m 28 #[.val (.ref sg), .val (.ref b1), .val (.int 4), .val (.int 2), .val (.ref w2)] [(.int 0)])) _
          refine XS.ifYes X21.here hx rfl (pc0 := 28) (pc' := 34) rfl (hb hby own_d16_28) rfl ((if0 _ _).trans (teq (by decide : (0 : Int32) = (0 : Int32))).1) (by decide) (by decide) ?_
          show Steps p.tables e below (T21.setTop (mkF m 34 #[.val (.ref sg), .val (.ref b1), .val (.int 4), .val (.int 2), .val (.ref w2)] [])) _
          refine XS.iinc X21.here hx rfl (hb hby own_d16_34) rfl (l' := #[.val (.ref sg), .val (.ref b1), .val (.int 4), .val (.int 3), .val (.ref w2)]) rfl ?_
          show Steps p.tables e below (T21.setTop (mkF m 37 #[.val (.ref sg), .val (.ref b1), .val (.int 4), .val (.int 3), .val (.ref w2)] [])) _
          refine XS.goto X21.here hx rfl (pc0 := 37) (pc' := 9) rfl (hb hby own_d16_37) (by decide) (by decide) ?_
          show Steps p.tables e below (T21.setTop (mkF m 9 #[.val (.ref sg), .val (.ref b1), .val (.int 4), .val (.int 3), .val (.ref w2)] [])) _
          refine XS.iloadN X21.here hx rfl (hb hby own_d16_9) rfl ?_
          show Steps p.tables e below (T21.setTop (mkF m 10 #[.val (.ref sg), .val (.ref b1), .val (.int 4), .val (.int 3), .val (.ref w2)] [(.int 3)])) _
          refine XS.iloadN X21.here hx rfl (hb hby own_d16_10) rfl ?_
          show Steps p.tables e below (T21.setTop (mkF m 11 #[.val (.ref sg), .val (.ref b1), .val (.int 4), .val (.int 3), .val (.ref w2)] [(.int 4), (.int 3)])) _
          refine XS.icmpNo X21.here hx rfl (hb hby own_d16_11) rfl (tlt (by decide : (3 : Int32) < (4 : Int32))).2.1 ?_
          show Steps p.tables e below (T21.setTop (mkF m 14 #[.val (.ref sg), .val (.ref b1), .val (.int 4), .val (.int 3), .val (.ref w2)] [])) _
          refine XS.aloadN X21.here hx rfl (hb hby own_d16_14) rfl rfl ?_
          show Steps p.tables e below (T21.setTop (mkF m 15 #[.val (.ref sg), .val (.ref b1), .val (.int 4), .val (.int 3), .val (.ref w2)] [(.ref b1)])) _
          refine XS.iloadN X21.here hx rfl (hb hby own_d16_15) rfl ?_
          show Steps p.tables e below (T21.setTop (mkF m 16 #[.val (.ref sg), .val (.ref b1), .val (.int 4), .val (.int 3), .val (.ref w2)] [(.int 3), (.ref b1)])) _
          refine X21.aaload hx (j := (3 : Int32)) (v := (.ref w3)) (by rw [e21]; exact Ar22.1) (State.isArrayOf_alike hZ.alike Ar22.2.1) rfl Ar22.2.2 hin22 (H22.at hin22 rfl) (g := (mkF m 16 #[.val (.ref sg), .val (.ref b1), .val (.int 4), .val (.int 3), .val (.ref w2)] [(.int 3), (.ref b1)])) rfl rfl (hb hby own_d16_16) _ ?_
          show Steps p.tables e below (T21.setTop (mkF m 17 #[.val (.ref sg), .val (.ref b1), .val (.int 4), .val (.int 3), .val (.ref w2)] [(.ref w3)])) _
          refine XS.astore X21.here hx rfl (hb hby own_d16_17) rfl rfl (l' := #[.val (.ref sg), .val (.ref b1), .val (.int 4), .val (.int 3), .val (.ref w3)]) rfl ?_
          show Steps p.tables e below (T21.setTop (mkF m 19 #[.val (.ref sg), .val (.ref b1), .val (.int 4), .val (.int 3), .val (.ref w3)] [])) _
          refine XS.aload X21.here hx rfl (hb hby own_d16_19) rfl rfl ?_
          show Steps p.tables e below (T21.setTop (mkF m 21 #[.val (.ref sg), .val (.ref b1), .val (.int 4), .val (.int 3), .val (.ref w3)] [(.ref w3)])) _
          refine st23 _ ?_
          exact k)
        by_cases hc25 : own_S 3 = cs
        · skip
          obtain ⟨cq26, kq26, q26a, q26b, q26c⟩ := isOf hZ e23 Es3
          obtain ⟨_, _, ⟨T26, L26, k26, n26⟩, -, X26, ⟨Lc26, hQ26, l26, y26, z26⟩, st26⟩ := X23.virtualBack hx (y := (⟨"java/lang/String", "equals", "(Ljava/lang/Object;)Z"⟩ : MethodName)) (z := (⟨"java/lang/String", "equals", "(Ljava/lang/Object;)Z"⟩ : MethodName)) hown (mvT hZ (hw _ (own_m (i := 98) rfl))) (mvT hZ (hw _ (own_m (i := 99) rfl))) (notFace_of_selects (args := #[]) (mvT hZ (hw _ (own_m (i := 101) rfl)))) (mvT hZ (hw _ (own_m (i := 101) rfl))) (mvT hZ (hw _ (own_m (i := 100) rfl))) (by decide) (StrChars.Road.eqW (W := 0) hZ (fun d hd => hw d ((by decide +kernel : ∀ d ∈ StrChars.Road.wordsEq, d ∈ tables_1) d hd)) (kI := 4) (hw _ (own_m (i := 2) rfl)) Es3 Fv3 Fc3 Vb3 (Or.inl ⟨rfl, rfl, rfl, fun c hc => (own_okS 3 c hc).2⟩ : StrChars.Road.CodA (own_S 3) 0 (Int32.ofNat (own_S 3).length) (List.map (fun c => Value.int (StrChars.lo8 c)) (own_S 3))) (own_up _ (own_okS 3)) (by decide) Es Fv Fc Vb (Or.inl ⟨rfl, rfl, rfl, fun c hc => (ok c hc).2⟩ : StrChars.Road.CodA cs 0 (Int32.ofNat cs.length) (List.map (fun c => Value.int (StrChars.lo8 c)) cs)) (own_up _ ok) ln S hcz (by decide) (by decide)) q26a q26c (g := (mkF m 25 #[.val (.ref sg), .val (.ref b1), .val (.int 4), .val (.int 3), .val (.ref w3)] [(.ref sg), (.ref sg3)])) rfl (by rw [hml]; rfl) (Steps.refl _) (argsL := [(.ref sg)]) (rest := []) (lenOf own_pd2 rfl) rfl (by show 2 * 0 + _ ≤ _; exact Nat.le_of_eq rfl) (hb hby own_d16_25) (fun _ _ => ⟨rfl, e23, (by decide : 1 + 0 ≤ _), (by decide : 4 + 0 ≤ _)⟩)
          dsimp only [Pt.U, Pt.locs, Pt.cells, Pt.slots] at X26 l26 y26 z26 st26 hQ26
          subst l26 y26 z26
          obtain ⟨hv26, rfl, e26⟩ := hQ26
          obtain rfl := (hv26.resolve_right (fun q_ => q_.2 hc25)).1
          have N26q := Fr.nil n0
          have N26 := Fr.app N21 N26q
          obtain ⟨fs, hr, hrun, hended, hW, hsame⟩ := X26.leave (v := some (.ref w3)) (fun h => by rw [Bd.returns] at h; cases h)
          refine ⟨_, _, pre24 _ ?_, hrun, hended, _, _, rfl, ?_, ⟨_, rfl⟩, hW, hsame.mono (by decide) (by decide)⟩
          · show Steps p.tables e below (T23.setTop (mkF m 24 #[.val (.ref sg), .val (.ref b1), .val (.int 4), .val (.int 3), .val (.ref w3)] [(.ref sg3)])) _
            refine XS.aloadN X23.here hx rfl (hb hby own_d16_24) rfl rfl ?_
            show Steps p.tables e below (T23.setTop (mkF m 25 #[.val (.ref sg), .val (.ref b1), .val (.int 4), .val (.int 3), .val (.ref w3)] [(.ref sg), (.ref sg3)])) _
            refine st26.trans ?_
            show Steps p.tables e below (T26.setTop (mkF m 28 #[.val (.ref sg), .val (.ref b1), .val (.int 4), .val (.int 3), .val (.ref w3)] [(.int 1)])) _
            refine XS.ifNo X26.here hx rfl (hb hby own_d16_28) rfl ((if0 _ _).trans (feq (by decide : ¬ ((1 : Int32) = (0 : Int32)))).1) ?_
            show Steps p.tables e below (T26.setTop (mkF m 31 #[.val (.ref sg), .val (.ref b1), .val (.int 4), .val (.int 3), .val (.ref w3)] [])) _
            refine XS.aload X26.here hx rfl (hb hby own_d16_31) rfl rfl ?_
            show Steps p.tables e below (T26.setTop (mkF m 33 #[.val (.ref sg), .val (.ref b1), .val (.int 4), .val (.int 3), .val (.ref w3)] [(.ref w3)])) _
            exact retOut X26 hx (t := (.object "com/example/millrace/millrace/definition/NodeKind")) Bd.returns rfl (Or.inr (Or.inr (Or.inr (Or.inr ⟨rfl, rfl, rfl⟩)))) (hb hby own_d16_33) hr
          · show own_Q_own_ofE Z sg bv kb cs cz va kv w0 w1 w2 w3 sg0 bv0 kb0 sg1 bv1 kb1 sg2 bv2 kb2 sg3 bv3 kb3 h0 n0 _ T26.heap _
            rw [e26]
            exact ⟨by unfold own_kind; rw [if_neg hc7, if_neg hc13, if_neg hc19, if_pos hc25], N26, KP⟩
        · skip
          obtain ⟨cq27, kq27, q27a, q27b, q27c⟩ := isOf hZ e23 Es3
          obtain ⟨_, _, ⟨T27, L27, k27, n27⟩, -, X27, ⟨Lc27, hQ27, l27, y27, z27⟩, st27⟩ := X23.virtualBack hx (y := (⟨"java/lang/String", "equals", "(Ljava/lang/Object;)Z"⟩ : MethodName)) (z := (⟨"java/lang/String", "equals", "(Ljava/lang/Object;)Z"⟩ : MethodName)) hown (mvT hZ (hw _ (own_m (i := 98) rfl))) (mvT hZ (hw _ (own_m (i := 99) rfl))) (notFace_of_selects (args := #[]) (mvT hZ (hw _ (own_m (i := 101) rfl)))) (mvT hZ (hw _ (own_m (i := 101) rfl))) (mvT hZ (hw _ (own_m (i := 100) rfl))) (by decide) (StrChars.Road.eqW (W := 0) hZ (fun d hd => hw d ((by decide +kernel : ∀ d ∈ StrChars.Road.wordsEq, d ∈ tables_1) d hd)) (kI := 4) (hw _ (own_m (i := 2) rfl)) Es3 Fv3 Fc3 Vb3 (Or.inl ⟨rfl, rfl, rfl, fun c hc => (own_okS 3 c hc).2⟩ : StrChars.Road.CodA (own_S 3) 0 (Int32.ofNat (own_S 3).length) (List.map (fun c => Value.int (StrChars.lo8 c)) (own_S 3))) (own_up _ (own_okS 3)) (by decide) Es Fv Fc Vb (Or.inl ⟨rfl, rfl, rfl, fun c hc => (ok c hc).2⟩ : StrChars.Road.CodA cs 0 (Int32.ofNat cs.length) (List.map (fun c => Value.int (StrChars.lo8 c)) cs)) (own_up _ ok) ln S hcz (by decide) (by decide)) q27a q27c (g := (mkF m 25 #[.val (.ref sg), .val (.ref b1), .val (.int 4), .val (.int 3), .val (.ref w3)] [(.ref sg), (.ref sg3)])) rfl (by rw [hml]; rfl) (Steps.refl _) (argsL := [(.ref sg)]) (rest := []) (lenOf own_pd2 rfl) rfl (by show 2 * 0 + _ ≤ _; exact Nat.le_of_eq rfl) (hb hby own_d16_25) (fun _ _ => ⟨rfl, e23, (by decide : 1 + 0 ≤ _), (by decide : 4 + 0 ≤ _)⟩)
          dsimp only [Pt.U, Pt.locs, Pt.cells, Pt.slots] at X27 l27 y27 z27 st27 hQ27
          subst l27 y27 z27
          obtain ⟨hv27, rfl, e27⟩ := hQ27
          obtain rfl := (hv27.resolve_left (fun q_ => hc25 q_.2)).1
          have N27q := Fr.nil n0
          have N27 := Fr.app N21 N27q
          obtain ⟨fs, hr, hrun, hended, hW, hsame⟩ := X27.leave (v := some .null) (fun h => by rw [Bd.returns] at h; cases h)
          refine ⟨_, _, pre24 _ ?_, hrun, hended, _, _, rfl, ?_, ⟨_, rfl⟩, hW, hsame.mono (by decide) (by decide)⟩
          · show Steps p.tables e below (T23.setTop (mkF m 24 #[.val (.ref sg), .val (.ref b1), .val (.int 4), .val (.int 3), .val (.ref w3)] [(.ref sg3)])) _
            refine XS.aloadN X23.here hx rfl (hb hby own_d16_24) rfl rfl ?_
            show Steps p.tables e below (T23.setTop (mkF m 25 #[.val (.ref sg), .val (.ref b1), .val (.int 4), .val (.int 3), .val (.ref w3)] [(.ref sg), (.ref sg3)])) _
            refine st27.trans ?_
            show Steps p.tables e below (T27.setTop (mkF m 28 #[.val (.ref sg), .val (.ref b1), .val (.int 4), .val (.int 3), .val (.ref w3)] [(.int 0)])) _
            refine XS.ifYes X27.here hx rfl (pc0 := 28) (pc' := 34) rfl (hb hby own_d16_28) rfl ((if0 _ _).trans (teq (by decide : (0 : Int32) = (0 : Int32))).1) (by decide) (by decide) ?_
            show Steps p.tables e below (T27.setTop (mkF m 34 #[.val (.ref sg), .val (.ref b1), .val (.int 4), .val (.int 3), .val (.ref w3)] [])) _
            refine XS.iinc X27.here hx rfl (hb hby own_d16_34) rfl (l' := #[.val (.ref sg), .val (.ref b1), .val (.int 4), .val (.int 4), .val (.ref w3)]) rfl ?_
            show Steps p.tables e below (T27.setTop (mkF m 37 #[.val (.ref sg), .val (.ref b1), .val (.int 4), .val (.int 4), .val (.ref w3)] [])) _
            refine XS.goto X27.here hx rfl (pc0 := 37) (pc' := 9) rfl (hb hby own_d16_37) (by decide) (by decide) ?_
            show Steps p.tables e below (T27.setTop (mkF m 9 #[.val (.ref sg), .val (.ref b1), .val (.int 4), .val (.int 4), .val (.ref w3)] [])) _
            refine XS.iloadN X27.here hx rfl (hb hby own_d16_9) rfl ?_
            show Steps p.tables e below (T27.setTop (mkF m 10 #[.val (.ref sg), .val (.ref b1), .val (.int 4), .val (.int 4), .val (.ref w3)] [(.int 4)])) _
            refine XS.iloadN X27.here hx rfl (hb hby own_d16_10) rfl ?_
            show Steps p.tables e below (T27.setTop (mkF m 11 #[.val (.ref sg), .val (.ref b1), .val (.int 4), .val (.int 4), .val (.ref w3)] [(.int 4), (.int 4)])) _
            refine XS.icmpYes X27.here hx rfl (pc0 := 11) (pc' := 40) rfl (hb hby own_d16_11) rfl (flt (by decide : ¬ ((4 : Int32) < (4 : Int32)))).2.1 (by decide) (by decide) ?_
            show Steps p.tables e below (T27.setTop (mkF m 40 #[.val (.ref sg), .val (.ref b1), .val (.int 4), .val (.int 4), .val (.ref w3)] [])) _
            refine XS.aconstNull X27.here hx rfl (hb hby own_d16_40) ?_
            show Steps p.tables e below (T27.setTop (mkF m 41 #[.val (.ref sg), .val (.ref b1), .val (.int 4), .val (.int 4), .val (.ref w3)] [.null])) _
            exact retOut X27 hx (t := (.object "com/example/millrace/millrace/definition/NodeKind")) Bd.returns rfl (Or.inr (Or.inr (Or.inr (Or.inr ⟨rfl, rfl, rfl⟩)))) (hb hby own_d16_41) hr
          · show own_Q_own_ofE Z sg bv kb cs cz va kv w0 w1 w2 w3 sg0 bv0 kb0 sg1 bv1 kb1 sg2 bv2 kb2 sg3 bv3 kb3 h0 n0 _ T27.heap _
            rw [e27]
            exact ⟨by unfold own_kind; rw [if_neg hc7, if_neg hc13, if_neg hc19, if_neg hc25], N27, KP⟩
theorem own_d11_0 : decode jdk_42_method_149_code 0 = .ok (.aload_n 0, 1) := by decide +kernel
theorem own_d11_1 : decode jdk_42_method_149_code 1 = .ok (.invokespecial 1, 3) := by decide +kernel
theorem own_d11_4 : decode jdk_42_method_149_code 4 = .ok (.iload_n 3, 1) := by decide +kernel
theorem own_d11_5 : decode jdk_42_method_149_code 5 = .ok (.ifCond .ne 22, 3) := by decide +kernel
theorem own_d11_8 : decode jdk_42_method_149_code 8 = .ok (.aload_n 0, 1) := by decide +kernel
theorem own_d11_9 : decode jdk_42_method_149_code 9 = .ok (.ldc 7, 2) := by decide +kernel
theorem own_d11_11 : decode jdk_42_method_149_code 11 = .ok (.getfield 9, 3) := by decide +kernel
theorem own_d11_14 : decode jdk_42_method_149_code 14 = .ok (.putfield 9, 3) := by decide +kernel
theorem own_d11_17 : decode jdk_42_method_149_code 17 = .ok (.aload_n 0, 1) := by decide +kernel
theorem own_d11_18 : decode jdk_42_method_149_code 18 = .ok (.ldc 7, 2) := by decide +kernel
theorem own_d11_20 : decode jdk_42_method_149_code 20 = .ok (.getfield 15, 3) := by decide +kernel
theorem own_d11_23 : decode jdk_42_method_149_code 23 = .ok (.putfield 15, 3) := by decide +kernel
theorem own_d11_26 : decode jdk_42_method_149_code 26 = .ok (.return_, 1) := by decide +kernel
theorem own_pn2 : plainName "java/lang/String" = true := by first | (simp [plainName, overriddenIn]; done) | decide +kernel
theorem own_ef11_4 (m : MethodId) (x0 : Addr) (x1 : Addr) (x2 : Int32) (x3 : Int32) : entryFrame m #[(.ref x0), (.ref x1), (.int x2), (.int x3), .null] 6 = mkF m 0 #[.val (.ref x0), .val (.ref x1), .val (.int x2), .val (.int x3), .val .null, .unset] [] := by first | (simp [entryFrame, mkF, argsToLocals, Value.category]; done) | rfl
def own_Q_own_siv0 (Z : State) (a : Addr) (sa : Addr) (Ts : List String) (h0 : Heap) (n0 : Nat) (v : Option Value) (h : Heap) (L : List Loc) : Prop := ∃ (b : Addr) (kb : ClassId), v = none ∧ Fr n0 L ∧ Keep h0 h [a] ∧ Exa Z h a "java/lang/String" ∧ Fld Z h a "java/lang/String" "coder" "B" (.int 0) ∧ Fld Z h a "java/lang/String" "value" "[B" (.ref b) ∧ Arv Z h b kb .byte (0 : Int32) [] (.int 0)
set_option maxRecDepth 65536 in
set_option maxHeartbeats 40000000 in
theorem own_siv0 (l : Launch) (Z : State) (a0 : Array Value) (hw : ∀ d ∈ tables_1, d.before a0 Z = true) (ws : List Jvm.Cond) (a : Addr) (sa : Addr) (Ts : List String) (h0 : Heap) (n0 : Nat) (Z0 : n0 ≤ h0.size) (O : Old Z n0 h0) (HC : Jvm.Lit.constHeld Z "java/lang/String" 7) (hcw : Jvm.Lit.compactW.before a0 Z = true) (hno : "" ∉ Ts) (Ea : Exa Z h0 a "java/lang/String") (Fco : Fld Z h0 a "java/lang/String" "coder" "B" (.int 0)) (Fva : Fld Z h0 a "java/lang/String" "value" "[B" .null) (ga : n0 ≤ a) :
    MetFree l (⟨"java/lang/String", "<init>", "([CIILjava/lang/Void;)V"⟩ : MethodName) (head1 (Jvm.Cond.code (⟨"java/lang/String", "<init>", "([CIILjava/lang/Void;)V"⟩ : MethodName) jdk_42_method_149_code 6 none :: ws) ({ frames := 1, cells := 2, slots := 4, locals := 12 } : Room)) (fun as_ U => as_ = #[(.ref a), (.ref sa), (.int 0), (.int 0), .null] ∧ Z.Warmed39 U.vm ∧ U.heap = h0 ∧ IB Z U.vm Ts) (fun _ _ _ _ _ => True) (fun _ U o U' => ∃ v L, o = .returned v ∧ own_Q_own_siv0 Z a sa Ts h0 n0 v U'.heap L ∧ ReturnedEndW U o U' L ({ frames := 1, cells := 2, slots := 4, locals := 12 } : Room).cells ({ frames := 1, cells := 2, slots := 4, locals := 12 } : Room).slots) := by
  refine MetFree.of_bodySF (plainFor_of_name own_pn2) hisR ?_
  intro p e s m args below meth c s₁ Bd hml0 hP hK
  obtain ⟨rfl, hZ, hh, hI⟩ := hP
  have hx := Bd.exec
  have hby := Bd.bytes
  have hml : c.maxLocals = 6 := hml0
  have hown : s.vm.findClass "java/lang/String" = some m.cls := findClass_of_methodNamed Bd.named
  have hnm := (name_of_methodNamed Bd.named Bd.method).1
  have X0 : Stand p l e ({ frames := 1, cells := 2, slots := 4, locals := 12 } : Room) (s.setVm s.vm) m #[(.ref a), (.ref sa), (.int 0), (.int 0), .null] below meth c s₁ [] 0 0 := Stand.of_body Bd
  have e0 : s₁.heap = h0 := by rw [← hh, Bd.state]; rfl
  have N0 := Fr.nil n0
  have pre0 : ∀ t, Steps p.tables e below (s₁.setTop (mkF m 0 #[.val (.ref a), .val (.ref sa), .val (.int 0), .val (.int 0), .val .null, .unset] [])) t → Steps p.tables e below (s₁.setTop (entryFrame m #[(.ref a), (.ref sa), (.int 0), (.int 0), .null] 6)) t := fun t k => castTop (own_ef11_4 m a sa (0 : Int32) (0 : Int32)) k
  have hS : s.Since s.vm 0 := (State.WarmedH.refl s).since 0
  have hk : 0 ≤ h0.size := Nat.zero_le _
  have hZ : Z.Warmed39 (s.setVm s.vm).vm := hZ
  have hown : (s.setVm s.vm).vm.findClass "java/lang/String" = some m.cls := hown
  have hI : IB Z (s.setVm s.vm).vm Ts := hI
  have O0 := O
  have KP := Keep.refl h0 ([a] : List Addr)
  obtain ⟨T1, X1, e1, st1⟩ := initO X0 hx hZ hown (hw _ (own_m (i := 62) rfl)) (hw _ (own_m (i := 63) rfl)) (hw _ (own_m (i := 64) rfl)) e0 (g := (mkF m 1 #[.val (.ref a), .val (.ref sa), .val (.int 0), .val (.int 0), .val .null, .unset] [(.ref a)])) rfl (by rw [hml]; rfl) rfl (hb hby own_d11_1) (by decide) (W := 0) (by show 2 * 0 + _ ≤ _; exact Nat.le_of_eq rfl) (by decide)
  have pre3 : ∀ t, Steps p.tables e below (T1.setTop (mkF m 9 #[.val (.ref a), .val (.ref sa), .val (.int 0), .val (.int 0), .val .null, .unset] [(.ref a)])) t → Steps p.tables e below (s₁.setTop (entryFrame m #[(.ref a), (.ref sa), (.int 0), (.int 0), .null] 6)) t := fun t k => pre0 t (by
    show Steps p.tables e below (s₁.setTop (mkF m 0 #[.val (.ref a), .val (.ref sa), .val (.int 0), .val (.int 0), .val .null, .unset] [])) _
    refine XS.aloadN X0.here hx rfl (hb hby own_d11_0) rfl rfl ?_
    show Steps p.tables e below (s₁.setTop (mkF m 1 #[.val (.ref a), .val (.ref sa), .val (.int 0), .val (.int 0), .val .null, .unset] [(.ref a)])) _
    refine st1 _ ?_
    show Steps p.tables e below (T1.setTop (mkF m 4 #[.val (.ref a), .val (.ref sa), .val (.int 0), .val (.int 0), .val .null, .unset] [])) _
    refine XS.iloadN X1.here hx rfl (hb hby own_d11_4) rfl ?_
    show Steps p.tables e below (T1.setTop (mkF m 5 #[.val (.ref a), .val (.ref sa), .val (.int 0), .val (.int 0), .val .null, .unset] [(.int 0)])) _
    refine XS.ifNo X1.here hx rfl (hb hby own_d11_5) rfl ((if0 _ _).trans (teq (by decide : (0 : Int32) = (0 : Int32))).2) ?_
    show Steps p.tables e below (T1.setTop (mkF m 8 #[.val (.ref a), .val (.ref sa), .val (.int 0), .val (.int 0), .val .null, .unset] [])) _
    refine XS.aloadN X1.here hx rfl (hb hby own_d11_8) rfl rfl ?_
    show Steps p.tables e below (T1.setTop (mkF m 9 #[.val (.ref a), .val (.ref sa), .val (.int 0), .val (.int 0), .val .null, .unset] [(.ref a)])) _
    exact k)
  obtain ⟨a2, T2, h2, k2, b2, kb2, X2, e2, E2, hS, hk, hZ, hown, Ee2, Fc2, Fv2, Vb2, lta, ltb, hI, LT, wh, st2⟩ := ldcSVd X1 hx hZ hown (hw _ (own_m (i := 112) rfl)) (own_wS hw) e1 hS hk (Fr.nil _) (fun b cl q => by rw [hh]; exact O0.2.2 b cl q) hI hno HC hcw (vs := []) (z := (0 : Int32)) ⟨by decide, rfl⟩ (by decide) rfl (g := (mkF m 9 #[.val (.ref a), .val (.ref sa), .val (.int 0), .val (.int 0), .val .null, .unset] [(.ref a)])) rfl (hb hby own_d11_9) (n := 0) (by decide) (by decide) (by decide) (by decide)
  have Ea := Ea.ext E2
  have Fco := Fco.ext E2
  have Fva := Fva.ext E2
  have Z4 : n0 ≤ h2.size := Nat.le_trans Z0 E2.1
  have KP := KP.ext E2
  have ne_a2_a : a2 ≠ a := Fld.ne Fv2 Fva (by simp)
  obtain ⟨T5, X5, e5, st5⟩ := getF X2 hx hZ hown (host := "") (Or.inl (hw _ (own_m (i := 16) rfl))) Via.refl e2 Fv2 (g := (mkF m 11 #[.val (.ref a), .val (.ref sa), .val (.int 0), .val (.int 0), .val .null, .unset] [(.ref a2), (.ref a)])) rfl rfl (hb hby own_d11_11)
  obtain ⟨T6, h6, X6, e6, W6, st6⟩ := putF X5 hx hZ hown (host := "") (Or.inl (hw _ (own_m (i := 16) rfl))) Via.refl e5 Fva Ea (Or.inr ⟨(hw _ (own_m (i := 4) rfl)), rfl, hnm⟩) (hw _ (own_m (i := 2) rfl)) (ty := (.array .byte)) (by decide) rfl rfl (g := (mkF m 14 #[.val (.ref a), .val (.ref sa), .val (.int 0), .val (.int 0), .val .null, .unset] [(.ref b2), (.ref a)])) rfl rfl (hb hby own_d11_14)
  have ne_a_b2 : a ≠ b2 := Exa.neArv Ea Vb2 (hw _ (own_m (i := 2) rfl))
  have Ea := Ea.wr W6
  have Fco := Fco.other W6 (Or.inr (slot_ne (Or.inr (hw _ (own_m (i := 5) rfl))) (Or.inr (hw _ (own_m (i := 4) rfl))) (by decide) (t := .byte) (t' := (.array .byte)) (by decide) (by decide)))
  have Ee2 := Ee2.wr W6
  have Fc2 := Fc2.other W6 (Or.inl ne_a2_a)
  have Fv2 := Fv2.other W6 (Or.inl ne_a2_a)
  have Vb2 := Vb2.other W6 (Ne.symm ne_a_b2)
  have hk := Nat.le_trans hk (Keep.of_wr W6).1
  have Z7 : n0 ≤ h6.size := Nat.le_trans Z4 (Keep.of_wr W6).1
  have KP := KP.wr W6 (Or.inl (own_m (i := 0) rfl))
  have Fva := Fva.same W6
  have N6 := Fr.snoc X6 N0 ga
  obtain ⟨T8, X8, e8, st8⟩ := getF X6 hx hZ hown (host := "") (Or.inl (hw _ (own_m (i := 23) rfl))) Via.refl e6 Fc2 (g := (mkF m 20 #[.val (.ref a), .val (.ref sa), .val (.int 0), .val (.int 0), .val .null, .unset] [(.ref a2), (.ref a)])) rfl rfl (hb hby own_d11_20)
  obtain ⟨T9, h9, X9, e9, W9, st9⟩ := putFN X8 hx hZ hown (hw _ (own_m (i := 23) rfl)) Via.refl e8 Fco Ea (Or.inr ⟨(hw _ (own_m (i := 5) rfl)), rfl, hnm⟩) (hw _ (own_m (i := 2) rfl)) (ty := .byte) (v' := .int (nar .byte (0 : Int32))) (by decide) rfl (fits_nar_byte _) (g := (mkF m 23 #[.val (.ref a), .val (.ref sa), .val (.int 0), .val (.int 0), .val .null, .unset] [(.int 0), (.ref a)])) rfl rfl (hb hby own_d11_23)
  rw [(show nar .byte (0 : Int32) = (0 : Int32) from by decide)] at W9
  have Ea := Ea.wr W9
  have Fva := Fva.other W9 (Or.inr (slot_ne (Or.inr (hw _ (own_m (i := 4) rfl))) (Or.inr (hw _ (own_m (i := 5) rfl))) (by decide) (t := (.array .byte)) (t' := .byte) (by decide) (by decide)))
  have Ee2 := Ee2.wr W9
  have Fc2 := Fc2.other W9 (Or.inl ne_a2_a)
  have Fv2 := Fv2.other W9 (Or.inl ne_a2_a)
  have Vb2 := Vb2.other W9 (Ne.symm ne_a_b2)
  have hk := Nat.le_trans hk (Keep.of_wr W9).1
  have Z10 : n0 ≤ h9.size := Nat.le_trans Z7 (Keep.of_wr W9).1
  have KP := KP.wr W9 (Or.inl (own_m (i := 0) rfl))
  have Fco := Fco.same W9
  have N9 := Fr.snoc X9 N6 ga
  obtain ⟨fs, hr, hrun, hended, hRW⟩ := X9.leaveW hS (by rw [e9]; exact hk) (v := none) (fun _ => rfl)
  refine ⟨_, _, pre3 _ ?_, hrun, hended, _, _, rfl, ?_, hRW.1, hRW.2.1, hRW.2.2.1, hRW.2.2.2.mono (by decide) (by decide)⟩
  · refine st2 _ ?_
    show Steps p.tables e below (T2.setTop (mkF m 11 #[.val (.ref a), .val (.ref sa), .val (.int 0), .val (.int 0), .val .null, .unset] [(.ref a2), (.ref a)])) _
    refine st5 _ ?_
    show Steps p.tables e below (T5.setTop (mkF m 14 #[.val (.ref a), .val (.ref sa), .val (.int 0), .val (.int 0), .val .null, .unset] [(.ref b2), (.ref a)])) _
    refine st6 _ ?_
    show Steps p.tables e below (T6.setTop (mkF m 17 #[.val (.ref a), .val (.ref sa), .val (.int 0), .val (.int 0), .val .null, .unset] [])) _
    refine XS.aloadN X6.here hx rfl (hb hby own_d11_17) rfl rfl ?_
    show Steps p.tables e below (T6.setTop (mkF m 18 #[.val (.ref a), .val (.ref sa), .val (.int 0), .val (.int 0), .val .null, .unset] [(.ref a)])) _
    refine ldcAgain X6 hx hZ hown (hw _ (own_m (i := 112) rfl)) LT (g := (mkF m 18 #[.val (.ref a), .val (.ref sa), .val (.int 0), .val (.int 0), .val .null, .unset] [(.ref a)])) rfl (hb hby own_d11_18) _ ?_
    show Steps p.tables e below (T6.setTop (mkF m 20 #[.val (.ref a), .val (.ref sa), .val (.int 0), .val (.int 0), .val .null, .unset] [(.ref a2), (.ref a)])) _
    refine st8 _ ?_
    show Steps p.tables e below (T8.setTop (mkF m 23 #[.val (.ref a), .val (.ref sa), .val (.int 0), .val (.int 0), .val .null, .unset] [(.int 0), (.ref a)])) _
    refine st9 _ ?_
    show Steps p.tables e below (T9.setTop (mkF m 26 #[.val (.ref a), .val (.ref sa), .val (.int 0), .val (.int 0), .val .null, .unset] [])) _
    exact X9.returnOut hx Bd.returns (hb hby own_d11_26) hr
  · show own_Q_own_siv0 Z a sa Ts h0 n0 _ T9.heap _
    rw [e9]
    exact ⟨b2, kb2, rfl, N9, KP, Ea, Fco, Fva, Vb2⟩
theorem own_pd3 : parseMethodDescriptor "([CIILjava/lang/Void;)V" = some ⟨[(.array .char), .int, .int, (.object "java/lang/Void")], none⟩ := by decide +kernel
theorem own_d10_0 : decode jdk_42_method_3_code 0 = .ok (.aload_n 0, 1) := by decide +kernel
theorem own_d10_1 : decode jdk_42_method_3_code 1 = .ok (.aload_n 1, 1) := by decide +kernel
theorem own_d10_2 : decode jdk_42_method_3_code 2 = .ok (.iconst 0, 1) := by decide +kernel
theorem own_d10_3 : decode jdk_42_method_3_code 3 = .ok (.aload_n 1, 1) := by decide +kernel
theorem own_d10_4 : decode jdk_42_method_3_code 4 = .ok (.arraylength, 1) := by decide +kernel
theorem own_d10_5 : decode jdk_42_method_3_code 5 = .ok (.aconst_null, 1) := by decide +kernel
theorem own_d10_6 : decode jdk_42_method_3_code 6 = .ok (.invokespecial 27, 3) := by decide +kernel
theorem own_d10_9 : decode jdk_42_method_3_code 9 = .ok (.return_, 1) := by decide +kernel
theorem own_ef10 (m : MethodId) (x0 : Addr) (x1 : Addr) : entryFrame m #[(.ref x0), (.ref x1)] 2 = mkF m 0 #[.val (.ref x0), .val (.ref x1)] [] := by first | (simp [entryFrame, mkF, argsToLocals, Value.category]; done) | rfl
def own_Q_own_sic0 (Z : State) (a : Addr) (sa : Addr) (Ts : List String) (kc : ClassId) (h0 : Heap) (n0 : Nat) (v : Option Value) (h : Heap) (L : List Loc) : Prop := ∃ (b : Addr) (kb : ClassId), v = none ∧ Fr n0 L ∧ Keep h0 h [a] ∧ Exa Z h a "java/lang/String" ∧ Fld Z h a "java/lang/String" "coder" "B" (.int 0) ∧ Fld Z h a "java/lang/String" "value" "[B" (.ref b) ∧ Arv Z h b kb .byte (0 : Int32) [] (.int 0)
set_option maxRecDepth 65536 in
set_option maxHeartbeats 40000000 in
theorem own_sic0 (l : Launch) (Z : State) (a0 : Array Value) (hw : ∀ d ∈ tables_1, d.before a0 Z = true) (ws : List Jvm.Cond) (a : Addr) (sa : Addr) (Ts : List String) (kc : ClassId) (h0 : Heap) (n0 : Nat) (Z0 : n0 ≤ h0.size) (O : Old Z n0 h0) (HC : Jvm.Lit.constHeld Z "java/lang/String" 7) (hcw : Jvm.Lit.compactW.before a0 Z = true) (hno : "" ∉ Ts) (Ea : Exa Z h0 a "java/lang/String") (Fco : Fld Z h0 a "java/lang/String" "coder" "B" (.int 0)) (Fva : Fld Z h0 a "java/lang/String" "value" "[B" .null) (ga : n0 ≤ a) (Vc : Arv Z h0 sa kc .char (0 : Int32) [] (.int 0)) :
    MetFree l (⟨"java/lang/String", "<init>", "([C)V"⟩ : MethodName) (head1 (Jvm.Cond.code (⟨"java/lang/String", "<init>", "([C)V"⟩ : MethodName) jdk_42_method_3_code 2 none :: ws) ({ frames := 2, cells := 2, slots := 4, locals := 29 } : Room)) (fun as_ U => as_ = #[(.ref a), (.ref sa)] ∧ Z.Warmed39 U.vm ∧ U.heap = h0 ∧ IB Z U.vm Ts) (fun _ _ _ _ _ => True) (fun _ U o U' => ∃ v L, o = .returned v ∧ own_Q_own_sic0 Z a sa Ts kc h0 n0 v U'.heap L ∧ ReturnedEndW U o U' L ({ frames := 2, cells := 2, slots := 4, locals := 29 } : Room).cells ({ frames := 2, cells := 2, slots := 4, locals := 29 } : Room).slots) := by
  refine MetFree.of_bodySF (plainFor_of_name own_pn2) hisR ?_
  intro p e s m args below meth c s₁ Bd hml0 hP hK
  obtain ⟨rfl, hZ, hh, hI⟩ := hP
  have hx := Bd.exec
  have hby := Bd.bytes
  have hml : c.maxLocals = 2 := hml0
  have hown : s.vm.findClass "java/lang/String" = some m.cls := findClass_of_methodNamed Bd.named
  have hnm := (name_of_methodNamed Bd.named Bd.method).1
  have X0 : Stand p l e ({ frames := 2, cells := 2, slots := 4, locals := 29 } : Room) (s.setVm s.vm) m #[(.ref a), (.ref sa)] below meth c s₁ [] 0 0 := Stand.of_body Bd
  have e0 : s₁.heap = h0 := by rw [← hh, Bd.state]; rfl
  have N0 := Fr.nil n0
  have pre0 : ∀ t, Steps p.tables e below (s₁.setTop (mkF m 0 #[.val (.ref a), .val (.ref sa)] [])) t → Steps p.tables e below (s₁.setTop (entryFrame m #[(.ref a), (.ref sa)] 2)) t := fun t k => castTop (own_ef10 m a sa) k
  have hS : s.Since s.vm 0 := (State.WarmedH.refl s).since 0
  have hk : 0 ≤ h0.size := Nat.zero_le _
  have hZ : Z.Warmed39 (s.setVm s.vm).vm := hZ
  have hown : (s.setVm s.vm).vm.findClass "java/lang/String" = some m.cls := hown
  have hI : IB Z (s.setVm s.vm).vm Ts := hI
  obtain ⟨cl1, Ar1, q1, S1, M1, H1, G1⟩ := id Vc
  have pre3 : ∀ t, Steps p.tables e below (s₁.setTop (mkF m 6 #[.val (.ref a), .val (.ref sa)] [.null, (.int 0), (.int 0), (.ref sa), (.ref a)])) t → Steps p.tables e below (s₁.setTop (entryFrame m #[(.ref a), (.ref sa)] 2)) t := fun t k => pre0 t (by
    show Steps p.tables e below (s₁.setTop (mkF m 0 #[.val (.ref a), .val (.ref sa)] [])) _
    refine XS.aloadN X0.here hx rfl (hb hby own_d10_0) rfl rfl ?_
    show Steps p.tables e below (s₁.setTop (mkF m 1 #[.val (.ref a), .val (.ref sa)] [(.ref a)])) _
    refine XS.aloadN X0.here hx rfl (hb hby own_d10_1) rfl rfl ?_
    show Steps p.tables e below (s₁.setTop (mkF m 2 #[.val (.ref a), .val (.ref sa)] [(.ref sa), (.ref a)])) _
    refine XS.iconst X0.here hx rfl (hb hby own_d10_2) ?_
    show Steps p.tables e below (s₁.setTop (mkF m 3 #[.val (.ref a), .val (.ref sa)] [(.int 0), (.ref sa), (.ref a)])) _
    refine XS.aloadN X0.here hx rfl (hb hby own_d10_3) rfl rfl ?_
    show Steps p.tables e below (s₁.setTop (mkF m 4 #[.val (.ref a), .val (.ref sa)] [(.ref sa), (.int 0), (.ref sa), (.ref a)])) _
    refine X0.arraylength hx (by rw [e0]; exact Ar1.1) (State.isArrayOf_alike hZ.alike Ar1.2.1) (g := (mkF m 4 #[.val (.ref a), .val (.ref sa)] [(.ref sa), (.int 0), (.ref sa), (.ref a)])) rfl rfl (hb hby own_d10_4) _ ?_
    rw [len_of S1 M1]
    show Steps p.tables e below (s₁.setTop (mkF m 5 #[.val (.ref a), .val (.ref sa)] [(.int 0), (.int 0), (.ref sa), (.ref a)])) _
    refine XS.aconstNull X0.here hx rfl (hb hby own_d10_5) ?_
    show Steps p.tables e below (s₁.setTop (mkF m 6 #[.val (.ref a), .val (.ref sa)] [.null, (.int 0), (.int 0), (.ref sa), (.ref a)])) _
    exact k)
  obtain ⟨_, _, ⟨T2, L2, k2, n2⟩, -, X2, hS2, hg2, ⟨Lc2, hQ2, l2, y2, z2⟩, st2⟩ := X0.specialBackS hx (y := (⟨"java/lang/String", "<init>", "([CIILjava/lang/Void;)V"⟩ : MethodName)) rfl hown (mvT hZ (hw _ (own_m (i := 58) rfl))) (mvT hZ (hw _ (own_m (i := 59) rfl))) (mvT hZ (hw _ (own_m (i := 61) rfl))) (by decide) (own_backOfSB (W := 0) (own_siv0 l Z a0 hw [] a sa Ts h0 n0 Z0 O HC hcw hno Ea Fco Fva ga) hZ hI (hw _ (own_m (i := 61) rfl)) (hw _ (own_m (i := 1) rfl)) (by decide) (by decide)) (g := (mkF m 6 #[.val (.ref a), .val (.ref sa)] [.null, (.int 0), (.int 0), (.ref sa), (.ref a)])) rfl (by rw [hml]; rfl) (Steps.refl _) (a := a) (argsL := [(.ref sa), (.int 0), (.int 0), .null]) (rest := []) (lenOf own_pd3 rfl) rfl (by show 2 * 0 + _ ≤ _; exact Nat.le_of_eq rfl) (hb hby own_d10_6) (fun _ _ => ⟨rfl, e0, (by decide : 0 + 2 ≤ _), (by decide : 0 + 4 ≤ _)⟩)
  dsimp only [Pt.U, Pt.locs, Pt.cells, Pt.slots] at X2 l2 y2 z2 st2 hQ2 hS2 hg2
  subst l2 y2 z2
  obtain ⟨X2, hS, hZ, hown⟩ := rebS hS (show _ ≤ s₁.heap.size by rw [e0]; exact hk) X2 hS2 hg2 hZ hown
  obtain ⟨b2, kb2, rfl, N2q, K2, Ee2, Fc2, Fv2, VB2⟩ := hQ2
  have N2 := Fr.app N0 N2q
  have Z4 := Nat.le_trans Z0 K2.1
  have hk := Nat.le_refl T2.heap.size
  obtain ⟨fs, hr, hrun, hended, hRW⟩ := X2.leaveW hS hk (v := none) (fun _ => rfl)
  refine ⟨_, _, pre3 _ ?_, hrun, hended, _, _, rfl, ?_, hRW.1, hRW.2.1, hRW.2.2.1, hRW.2.2.2.mono (by decide) (by decide)⟩
  · refine st2.trans ?_
    show Steps p.tables e below (T2.setTop (mkF m 9 #[.val (.ref a), .val (.ref sa)] [])) _
    exact X2.returnOut hx Bd.returns (hb hby own_d10_9) hr
  · show own_Q_own_sic0 Z a sa Ts kc h0 n0 _ T2.heap _
    exact ⟨b2, kb2, rfl, N2, K2, Ee2, Fc2, Fv2, VB2⟩
theorem own_pd4 : parseMethodDescriptor "([C)V" = some ⟨[(.array .char)], none⟩ := by decide +kernel
theorem own_d9_0 : decode method_4_code 0 = .ok (.iload_n 1, 1) := by decide +kernel
theorem own_d9_1 : decode method_4_code 1 = .ok (.ifCond .ne 14, 3) := by decide +kernel
theorem own_d9_4 : decode method_4_code 4 = .ok (.new 31, 3) := by decide +kernel
theorem own_d9_7 : decode method_4_code 7 = .ok (.dup, 1) := by decide +kernel
theorem own_d9_8 : decode method_4_code 8 = .ok (.iconst 0, 1) := by decide +kernel
theorem own_d9_9 : decode method_4_code 9 = .ok (.newarray .char, 2) := by decide +kernel
theorem own_d9_11 : decode method_4_code 11 = .ok (.invokespecial 55, 3) := by decide +kernel
theorem own_d9_14 : decode method_4_code 14 = .ok (.areturn, 1) := by decide +kernel
theorem own_d9_15 : decode method_4_code 15 = .ok (.iload_n 1, 1) := by decide +kernel
theorem own_d9_16 : decode method_4_code 16 = .ok (.iconst 1, 1) := by decide +kernel
theorem own_d9_17 : decode method_4_code 17 = .ok (.if_icmp .ne 20, 3) := by decide +kernel
theorem own_d9_20 : decode method_4_code 20 = .ok (.new 31, 3) := by decide +kernel
theorem own_d9_23 : decode method_4_code 23 = .ok (.dup, 1) := by decide +kernel
theorem own_d9_24 : decode method_4_code 24 = .ok (.iconst 1, 1) := by decide +kernel
theorem own_d9_25 : decode method_4_code 25 = .ok (.newarray .char, 2) := by decide +kernel
theorem own_d9_27 : decode method_4_code 27 = .ok (.dup, 1) := by decide +kernel
theorem own_d9_28 : decode method_4_code 28 = .ok (.iconst 0, 1) := by decide +kernel
theorem own_d9_29 : decode method_4_code 29 = .ok (.aload_n 0, 1) := by decide +kernel
theorem own_d9_30 : decode method_4_code 30 = .ok (.iconst 0, 1) := by decide +kernel
theorem own_d9_31 : decode method_4_code 31 = .ok (.caload, 1) := by decide +kernel
theorem own_d9_32 : decode method_4_code 32 = .ok (.castore, 1) := by decide +kernel
theorem own_d9_33 : decode method_4_code 33 = .ok (.invokespecial 55, 3) := by decide +kernel
theorem own_d9_36 : decode method_4_code 36 = .ok (.areturn, 1) := by decide +kernel
theorem own_d9_37 : decode method_4_code 37 = .ok (.iload_n 1, 1) := by decide +kernel
theorem own_d9_38 : decode method_4_code 38 = .ok (.iconst 2, 1) := by decide +kernel
theorem own_d9_39 : decode method_4_code 39 = .ok (.if_icmp .ne 26, 3) := by decide +kernel
theorem own_d9_42 : decode method_4_code 42 = .ok (.new 31, 3) := by decide +kernel
theorem own_d9_45 : decode method_4_code 45 = .ok (.dup, 1) := by decide +kernel
theorem own_d9_46 : decode method_4_code 46 = .ok (.iconst 2, 1) := by decide +kernel
theorem own_d9_47 : decode method_4_code 47 = .ok (.newarray .char, 2) := by decide +kernel
theorem own_d9_49 : decode method_4_code 49 = .ok (.dup, 1) := by decide +kernel
theorem own_d9_50 : decode method_4_code 50 = .ok (.iconst 0, 1) := by decide +kernel
theorem own_d9_51 : decode method_4_code 51 = .ok (.aload_n 0, 1) := by decide +kernel
theorem own_d9_52 : decode method_4_code 52 = .ok (.iconst 0, 1) := by decide +kernel
theorem own_d9_53 : decode method_4_code 53 = .ok (.caload, 1) := by decide +kernel
theorem own_d9_54 : decode method_4_code 54 = .ok (.castore, 1) := by decide +kernel
theorem own_d9_55 : decode method_4_code 55 = .ok (.dup, 1) := by decide +kernel
theorem own_d9_56 : decode method_4_code 56 = .ok (.iconst 1, 1) := by decide +kernel
theorem own_d9_57 : decode method_4_code 57 = .ok (.aload_n 0, 1) := by decide +kernel
theorem own_d9_58 : decode method_4_code 58 = .ok (.iconst 1, 1) := by decide +kernel
theorem own_d9_59 : decode method_4_code 59 = .ok (.caload, 1) := by decide +kernel
theorem own_d9_60 : decode method_4_code 60 = .ok (.castore, 1) := by decide +kernel
theorem own_d9_61 : decode method_4_code 61 = .ok (.invokespecial 55, 3) := by decide +kernel
theorem own_d9_64 : decode method_4_code 64 = .ok (.areturn, 1) := by decide +kernel
theorem own_d9_65 : decode method_4_code 65 = .ok (.iload_n 1, 1) := by decide +kernel
theorem own_d9_66 : decode method_4_code 66 = .ok (.iconst 3, 1) := by decide +kernel
theorem own_d9_67 : decode method_4_code 67 = .ok (.if_icmp .ne 32, 3) := by decide +kernel
theorem own_d9_70 : decode method_4_code 70 = .ok (.new 31, 3) := by decide +kernel
theorem own_d9_73 : decode method_4_code 73 = .ok (.dup, 1) := by decide +kernel
theorem own_d9_74 : decode method_4_code 74 = .ok (.iconst 3, 1) := by decide +kernel
theorem own_d9_75 : decode method_4_code 75 = .ok (.newarray .char, 2) := by decide +kernel
theorem own_d9_77 : decode method_4_code 77 = .ok (.dup, 1) := by decide +kernel
theorem own_d9_78 : decode method_4_code 78 = .ok (.iconst 0, 1) := by decide +kernel
theorem own_d9_79 : decode method_4_code 79 = .ok (.aload_n 0, 1) := by decide +kernel
theorem own_d9_80 : decode method_4_code 80 = .ok (.iconst 0, 1) := by decide +kernel
theorem own_d9_81 : decode method_4_code 81 = .ok (.caload, 1) := by decide +kernel
theorem own_d9_82 : decode method_4_code 82 = .ok (.castore, 1) := by decide +kernel
theorem own_d9_83 : decode method_4_code 83 = .ok (.dup, 1) := by decide +kernel
theorem own_d9_84 : decode method_4_code 84 = .ok (.iconst 1, 1) := by decide +kernel
theorem own_d9_85 : decode method_4_code 85 = .ok (.aload_n 0, 1) := by decide +kernel
theorem own_d9_86 : decode method_4_code 86 = .ok (.iconst 1, 1) := by decide +kernel
theorem own_d9_87 : decode method_4_code 87 = .ok (.caload, 1) := by decide +kernel
theorem own_d9_88 : decode method_4_code 88 = .ok (.castore, 1) := by decide +kernel
theorem own_d9_89 : decode method_4_code 89 = .ok (.dup, 1) := by decide +kernel
theorem own_d9_90 : decode method_4_code 90 = .ok (.iconst 2, 1) := by decide +kernel
theorem own_d9_91 : decode method_4_code 91 = .ok (.aload_n 0, 1) := by decide +kernel
theorem own_d9_92 : decode method_4_code 92 = .ok (.iconst 2, 1) := by decide +kernel
theorem own_d9_93 : decode method_4_code 93 = .ok (.caload, 1) := by decide +kernel
theorem own_d9_94 : decode method_4_code 94 = .ok (.castore, 1) := by decide +kernel
theorem own_d9_95 : decode method_4_code 95 = .ok (.invokespecial 55, 3) := by decide +kernel
theorem own_d9_98 : decode method_4_code 98 = .ok (.areturn, 1) := by decide +kernel
theorem own_d9_99 : decode method_4_code 99 = .ok (.iload_n 1, 1) := by decide +kernel
theorem own_d9_100 : decode method_4_code 100 = .ok (.iconst 4, 1) := by decide +kernel
theorem own_d9_101 : decode method_4_code 101 = .ok (.if_icmp .ne 38, 3) := by decide +kernel
theorem own_d9_104 : decode method_4_code 104 = .ok (.new 31, 3) := by decide +kernel
theorem own_d9_107 : decode method_4_code 107 = .ok (.dup, 1) := by decide +kernel
theorem own_d9_108 : decode method_4_code 108 = .ok (.iconst 4, 1) := by decide +kernel
theorem own_d9_109 : decode method_4_code 109 = .ok (.newarray .char, 2) := by decide +kernel
theorem own_d9_111 : decode method_4_code 111 = .ok (.dup, 1) := by decide +kernel
theorem own_d9_112 : decode method_4_code 112 = .ok (.iconst 0, 1) := by decide +kernel
theorem own_d9_113 : decode method_4_code 113 = .ok (.aload_n 0, 1) := by decide +kernel
theorem own_d9_114 : decode method_4_code 114 = .ok (.iconst 0, 1) := by decide +kernel
theorem own_d9_115 : decode method_4_code 115 = .ok (.caload, 1) := by decide +kernel
theorem own_d9_116 : decode method_4_code 116 = .ok (.castore, 1) := by decide +kernel
theorem own_d9_117 : decode method_4_code 117 = .ok (.dup, 1) := by decide +kernel
theorem own_d9_118 : decode method_4_code 118 = .ok (.iconst 1, 1) := by decide +kernel
theorem own_d9_119 : decode method_4_code 119 = .ok (.aload_n 0, 1) := by decide +kernel
theorem own_d9_120 : decode method_4_code 120 = .ok (.iconst 1, 1) := by decide +kernel
theorem own_d9_121 : decode method_4_code 121 = .ok (.caload, 1) := by decide +kernel
theorem own_d9_122 : decode method_4_code 122 = .ok (.castore, 1) := by decide +kernel
theorem own_d9_123 : decode method_4_code 123 = .ok (.dup, 1) := by decide +kernel
theorem own_d9_124 : decode method_4_code 124 = .ok (.iconst 2, 1) := by decide +kernel
theorem own_d9_125 : decode method_4_code 125 = .ok (.aload_n 0, 1) := by decide +kernel
theorem own_d9_126 : decode method_4_code 126 = .ok (.iconst 2, 1) := by decide +kernel
theorem own_d9_127 : decode method_4_code 127 = .ok (.caload, 1) := by decide +kernel
theorem own_d9_128 : decode method_4_code 128 = .ok (.castore, 1) := by decide +kernel
theorem own_d9_129 : decode method_4_code 129 = .ok (.dup, 1) := by decide +kernel
theorem own_d9_130 : decode method_4_code 130 = .ok (.iconst 3, 1) := by decide +kernel
theorem own_d9_131 : decode method_4_code 131 = .ok (.aload_n 0, 1) := by decide +kernel
theorem own_d9_132 : decode method_4_code 132 = .ok (.iconst 3, 1) := by decide +kernel
theorem own_d9_133 : decode method_4_code 133 = .ok (.caload, 1) := by decide +kernel
theorem own_d9_134 : decode method_4_code 134 = .ok (.castore, 1) := by decide +kernel
theorem own_d9_135 : decode method_4_code 135 = .ok (.invokespecial 55, 3) := by decide +kernel
theorem own_d9_138 : decode method_4_code 138 = .ok (.areturn, 1) := by decide +kernel
theorem own_d9_139 : decode method_4_code 139 = .ok (.iload_n 1, 1) := by decide +kernel
theorem own_d9_140 : decode method_4_code 140 = .ok (.iconst 5, 1) := by decide +kernel
theorem own_d9_141 : decode method_4_code 141 = .ok (.if_icmp .ne 44, 3) := by decide +kernel
theorem own_d9_144 : decode method_4_code 144 = .ok (.new 31, 3) := by decide +kernel
theorem own_d9_147 : decode method_4_code 147 = .ok (.dup, 1) := by decide +kernel
theorem own_d9_148 : decode method_4_code 148 = .ok (.iconst 5, 1) := by decide +kernel
theorem own_d9_149 : decode method_4_code 149 = .ok (.newarray .char, 2) := by decide +kernel
theorem own_d9_151 : decode method_4_code 151 = .ok (.dup, 1) := by decide +kernel
theorem own_d9_152 : decode method_4_code 152 = .ok (.iconst 0, 1) := by decide +kernel
theorem own_d9_153 : decode method_4_code 153 = .ok (.aload_n 0, 1) := by decide +kernel
theorem own_d9_154 : decode method_4_code 154 = .ok (.iconst 0, 1) := by decide +kernel
theorem own_d9_155 : decode method_4_code 155 = .ok (.caload, 1) := by decide +kernel
theorem own_d9_156 : decode method_4_code 156 = .ok (.castore, 1) := by decide +kernel
theorem own_d9_157 : decode method_4_code 157 = .ok (.dup, 1) := by decide +kernel
theorem own_d9_158 : decode method_4_code 158 = .ok (.iconst 1, 1) := by decide +kernel
theorem own_d9_159 : decode method_4_code 159 = .ok (.aload_n 0, 1) := by decide +kernel
theorem own_d9_160 : decode method_4_code 160 = .ok (.iconst 1, 1) := by decide +kernel
theorem own_d9_161 : decode method_4_code 161 = .ok (.caload, 1) := by decide +kernel
theorem own_d9_162 : decode method_4_code 162 = .ok (.castore, 1) := by decide +kernel
theorem own_d9_163 : decode method_4_code 163 = .ok (.dup, 1) := by decide +kernel
theorem own_d9_164 : decode method_4_code 164 = .ok (.iconst 2, 1) := by decide +kernel
theorem own_d9_165 : decode method_4_code 165 = .ok (.aload_n 0, 1) := by decide +kernel
theorem own_d9_166 : decode method_4_code 166 = .ok (.iconst 2, 1) := by decide +kernel
theorem own_d9_167 : decode method_4_code 167 = .ok (.caload, 1) := by decide +kernel
theorem own_d9_168 : decode method_4_code 168 = .ok (.castore, 1) := by decide +kernel
theorem own_d9_169 : decode method_4_code 169 = .ok (.dup, 1) := by decide +kernel
theorem own_d9_170 : decode method_4_code 170 = .ok (.iconst 3, 1) := by decide +kernel
theorem own_d9_171 : decode method_4_code 171 = .ok (.aload_n 0, 1) := by decide +kernel
theorem own_d9_172 : decode method_4_code 172 = .ok (.iconst 3, 1) := by decide +kernel
theorem own_d9_173 : decode method_4_code 173 = .ok (.caload, 1) := by decide +kernel
theorem own_d9_174 : decode method_4_code 174 = .ok (.castore, 1) := by decide +kernel
theorem own_d9_175 : decode method_4_code 175 = .ok (.dup, 1) := by decide +kernel
theorem own_d9_176 : decode method_4_code 176 = .ok (.iconst 4, 1) := by decide +kernel
theorem own_d9_177 : decode method_4_code 177 = .ok (.aload_n 0, 1) := by decide +kernel
theorem own_d9_178 : decode method_4_code 178 = .ok (.iconst 4, 1) := by decide +kernel
theorem own_d9_179 : decode method_4_code 179 = .ok (.caload, 1) := by decide +kernel
theorem own_d9_180 : decode method_4_code 180 = .ok (.castore, 1) := by decide +kernel
theorem own_d9_181 : decode method_4_code 181 = .ok (.invokespecial 55, 3) := by decide +kernel
theorem own_d9_184 : decode method_4_code 184 = .ok (.areturn, 1) := by decide +kernel
theorem own_d9_185 : decode method_4_code 185 = .ok (.iload_n 1, 1) := by decide +kernel
theorem own_d9_186 : decode method_4_code 186 = .ok (.bipush 6, 2) := by decide +kernel
theorem own_d9_188 : decode method_4_code 188 = .ok (.if_icmp .ne 51, 3) := by decide +kernel
theorem own_d9_191 : decode method_4_code 191 = .ok (.new 31, 3) := by decide +kernel
theorem own_d9_194 : decode method_4_code 194 = .ok (.dup, 1) := by decide +kernel
theorem own_d9_195 : decode method_4_code 195 = .ok (.bipush 6, 2) := by decide +kernel
theorem own_d9_197 : decode method_4_code 197 = .ok (.newarray .char, 2) := by decide +kernel
theorem own_d9_199 : decode method_4_code 199 = .ok (.dup, 1) := by decide +kernel
theorem own_d9_200 : decode method_4_code 200 = .ok (.iconst 0, 1) := by decide +kernel
theorem own_d9_201 : decode method_4_code 201 = .ok (.aload_n 0, 1) := by decide +kernel
theorem own_d9_202 : decode method_4_code 202 = .ok (.iconst 0, 1) := by decide +kernel
theorem own_d9_203 : decode method_4_code 203 = .ok (.caload, 1) := by decide +kernel
theorem own_d9_204 : decode method_4_code 204 = .ok (.castore, 1) := by decide +kernel
theorem own_d9_205 : decode method_4_code 205 = .ok (.dup, 1) := by decide +kernel
theorem own_d9_206 : decode method_4_code 206 = .ok (.iconst 1, 1) := by decide +kernel
theorem own_d9_207 : decode method_4_code 207 = .ok (.aload_n 0, 1) := by decide +kernel
theorem own_d9_208 : decode method_4_code 208 = .ok (.iconst 1, 1) := by decide +kernel
theorem own_d9_209 : decode method_4_code 209 = .ok (.caload, 1) := by decide +kernel
theorem own_d9_210 : decode method_4_code 210 = .ok (.castore, 1) := by decide +kernel
theorem own_d9_211 : decode method_4_code 211 = .ok (.dup, 1) := by decide +kernel
theorem own_d9_212 : decode method_4_code 212 = .ok (.iconst 2, 1) := by decide +kernel
theorem own_d9_213 : decode method_4_code 213 = .ok (.aload_n 0, 1) := by decide +kernel
theorem own_d9_214 : decode method_4_code 214 = .ok (.iconst 2, 1) := by decide +kernel
theorem own_d9_215 : decode method_4_code 215 = .ok (.caload, 1) := by decide +kernel
theorem own_d9_216 : decode method_4_code 216 = .ok (.castore, 1) := by decide +kernel
theorem own_d9_217 : decode method_4_code 217 = .ok (.dup, 1) := by decide +kernel
theorem own_d9_218 : decode method_4_code 218 = .ok (.iconst 3, 1) := by decide +kernel
theorem own_d9_219 : decode method_4_code 219 = .ok (.aload_n 0, 1) := by decide +kernel
theorem own_d9_220 : decode method_4_code 220 = .ok (.iconst 3, 1) := by decide +kernel
theorem own_d9_221 : decode method_4_code 221 = .ok (.caload, 1) := by decide +kernel
theorem own_d9_222 : decode method_4_code 222 = .ok (.castore, 1) := by decide +kernel
theorem own_d9_223 : decode method_4_code 223 = .ok (.dup, 1) := by decide +kernel
theorem own_d9_224 : decode method_4_code 224 = .ok (.iconst 4, 1) := by decide +kernel
theorem own_d9_225 : decode method_4_code 225 = .ok (.aload_n 0, 1) := by decide +kernel
theorem own_d9_226 : decode method_4_code 226 = .ok (.iconst 4, 1) := by decide +kernel
theorem own_d9_227 : decode method_4_code 227 = .ok (.caload, 1) := by decide +kernel
theorem own_d9_228 : decode method_4_code 228 = .ok (.castore, 1) := by decide +kernel
theorem own_d9_229 : decode method_4_code 229 = .ok (.dup, 1) := by decide +kernel
theorem own_d9_230 : decode method_4_code 230 = .ok (.iconst 5, 1) := by decide +kernel
theorem own_d9_231 : decode method_4_code 231 = .ok (.aload_n 0, 1) := by decide +kernel
theorem own_d9_232 : decode method_4_code 232 = .ok (.iconst 5, 1) := by decide +kernel
theorem own_d9_233 : decode method_4_code 233 = .ok (.caload, 1) := by decide +kernel
theorem own_d9_234 : decode method_4_code 234 = .ok (.castore, 1) := by decide +kernel
theorem own_d9_235 : decode method_4_code 235 = .ok (.invokespecial 55, 3) := by decide +kernel
theorem own_d9_238 : decode method_4_code 238 = .ok (.areturn, 1) := by decide +kernel
theorem own_d9_239 : decode method_4_code 239 = .ok (.iload_n 1, 1) := by decide +kernel
theorem own_d9_240 : decode method_4_code 240 = .ok (.bipush 7, 2) := by decide +kernel
theorem own_d9_242 : decode method_4_code 242 = .ok (.if_icmp .ne 59, 3) := by decide +kernel
theorem own_d9_245 : decode method_4_code 245 = .ok (.new 31, 3) := by decide +kernel
theorem own_d9_248 : decode method_4_code 248 = .ok (.dup, 1) := by decide +kernel
theorem own_d9_249 : decode method_4_code 249 = .ok (.bipush 7, 2) := by decide +kernel
theorem own_d9_251 : decode method_4_code 251 = .ok (.newarray .char, 2) := by decide +kernel
theorem own_d9_253 : decode method_4_code 253 = .ok (.dup, 1) := by decide +kernel
theorem own_d9_254 : decode method_4_code 254 = .ok (.iconst 0, 1) := by decide +kernel
theorem own_d9_255 : decode method_4_code 255 = .ok (.aload_n 0, 1) := by decide +kernel
theorem own_d9_256 : decode method_4_code 256 = .ok (.iconst 0, 1) := by decide +kernel
theorem own_d9_257 : decode method_4_code 257 = .ok (.caload, 1) := by decide +kernel
theorem own_d9_258 : decode method_4_code 258 = .ok (.castore, 1) := by decide +kernel
theorem own_d9_259 : decode method_4_code 259 = .ok (.dup, 1) := by decide +kernel
theorem own_d9_260 : decode method_4_code 260 = .ok (.iconst 1, 1) := by decide +kernel
theorem own_d9_261 : decode method_4_code 261 = .ok (.aload_n 0, 1) := by decide +kernel
theorem own_d9_262 : decode method_4_code 262 = .ok (.iconst 1, 1) := by decide +kernel
theorem own_d9_263 : decode method_4_code 263 = .ok (.caload, 1) := by decide +kernel
theorem own_d9_264 : decode method_4_code 264 = .ok (.castore, 1) := by decide +kernel
theorem own_d9_265 : decode method_4_code 265 = .ok (.dup, 1) := by decide +kernel
theorem own_d9_266 : decode method_4_code 266 = .ok (.iconst 2, 1) := by decide +kernel
theorem own_d9_267 : decode method_4_code 267 = .ok (.aload_n 0, 1) := by decide +kernel
theorem own_d9_268 : decode method_4_code 268 = .ok (.iconst 2, 1) := by decide +kernel
theorem own_d9_269 : decode method_4_code 269 = .ok (.caload, 1) := by decide +kernel
theorem own_d9_270 : decode method_4_code 270 = .ok (.castore, 1) := by decide +kernel
theorem own_d9_271 : decode method_4_code 271 = .ok (.dup, 1) := by decide +kernel
theorem own_d9_272 : decode method_4_code 272 = .ok (.iconst 3, 1) := by decide +kernel
theorem own_d9_273 : decode method_4_code 273 = .ok (.aload_n 0, 1) := by decide +kernel
theorem own_d9_274 : decode method_4_code 274 = .ok (.iconst 3, 1) := by decide +kernel
theorem own_d9_275 : decode method_4_code 275 = .ok (.caload, 1) := by decide +kernel
theorem own_d9_276 : decode method_4_code 276 = .ok (.castore, 1) := by decide +kernel
theorem own_d9_277 : decode method_4_code 277 = .ok (.dup, 1) := by decide +kernel
theorem own_d9_278 : decode method_4_code 278 = .ok (.iconst 4, 1) := by decide +kernel
theorem own_d9_279 : decode method_4_code 279 = .ok (.aload_n 0, 1) := by decide +kernel
theorem own_d9_280 : decode method_4_code 280 = .ok (.iconst 4, 1) := by decide +kernel
theorem own_d9_281 : decode method_4_code 281 = .ok (.caload, 1) := by decide +kernel
theorem own_d9_282 : decode method_4_code 282 = .ok (.castore, 1) := by decide +kernel
theorem own_d9_283 : decode method_4_code 283 = .ok (.dup, 1) := by decide +kernel
theorem own_d9_284 : decode method_4_code 284 = .ok (.iconst 5, 1) := by decide +kernel
theorem own_d9_285 : decode method_4_code 285 = .ok (.aload_n 0, 1) := by decide +kernel
theorem own_d9_286 : decode method_4_code 286 = .ok (.iconst 5, 1) := by decide +kernel
theorem own_d9_287 : decode method_4_code 287 = .ok (.caload, 1) := by decide +kernel
theorem own_d9_288 : decode method_4_code 288 = .ok (.castore, 1) := by decide +kernel
theorem own_d9_289 : decode method_4_code 289 = .ok (.dup, 1) := by decide +kernel
theorem own_d9_290 : decode method_4_code 290 = .ok (.bipush 6, 2) := by decide +kernel
theorem own_d9_292 : decode method_4_code 292 = .ok (.aload_n 0, 1) := by decide +kernel
theorem own_d9_293 : decode method_4_code 293 = .ok (.bipush 6, 2) := by decide +kernel
theorem own_d9_295 : decode method_4_code 295 = .ok (.caload, 1) := by decide +kernel
theorem own_d9_296 : decode method_4_code 296 = .ok (.castore, 1) := by decide +kernel
theorem own_d9_297 : decode method_4_code 297 = .ok (.invokespecial 55, 3) := by decide +kernel
theorem own_d9_300 : decode method_4_code 300 = .ok (.areturn, 1) := by decide +kernel
theorem own_d9_301 : decode method_4_code 301 = .ok (.iload_n 1, 1) := by decide +kernel
theorem own_d9_302 : decode method_4_code 302 = .ok (.bipush 8, 2) := by decide +kernel
theorem own_d9_304 : decode method_4_code 304 = .ok (.if_icmp .ne 67, 3) := by decide +kernel
theorem own_d9_307 : decode method_4_code 307 = .ok (.new 31, 3) := by decide +kernel
theorem own_d9_310 : decode method_4_code 310 = .ok (.dup, 1) := by decide +kernel
theorem own_d9_311 : decode method_4_code 311 = .ok (.bipush 8, 2) := by decide +kernel
theorem own_d9_313 : decode method_4_code 313 = .ok (.newarray .char, 2) := by decide +kernel
theorem own_d9_315 : decode method_4_code 315 = .ok (.dup, 1) := by decide +kernel
theorem own_d9_316 : decode method_4_code 316 = .ok (.iconst 0, 1) := by decide +kernel
theorem own_d9_317 : decode method_4_code 317 = .ok (.aload_n 0, 1) := by decide +kernel
theorem own_d9_318 : decode method_4_code 318 = .ok (.iconst 0, 1) := by decide +kernel
theorem own_d9_319 : decode method_4_code 319 = .ok (.caload, 1) := by decide +kernel
theorem own_d9_320 : decode method_4_code 320 = .ok (.castore, 1) := by decide +kernel
theorem own_d9_321 : decode method_4_code 321 = .ok (.dup, 1) := by decide +kernel
theorem own_d9_322 : decode method_4_code 322 = .ok (.iconst 1, 1) := by decide +kernel
theorem own_d9_323 : decode method_4_code 323 = .ok (.aload_n 0, 1) := by decide +kernel
theorem own_d9_324 : decode method_4_code 324 = .ok (.iconst 1, 1) := by decide +kernel
theorem own_d9_325 : decode method_4_code 325 = .ok (.caload, 1) := by decide +kernel
theorem own_d9_326 : decode method_4_code 326 = .ok (.castore, 1) := by decide +kernel
theorem own_d9_327 : decode method_4_code 327 = .ok (.dup, 1) := by decide +kernel
theorem own_d9_328 : decode method_4_code 328 = .ok (.iconst 2, 1) := by decide +kernel
theorem own_d9_329 : decode method_4_code 329 = .ok (.aload_n 0, 1) := by decide +kernel
theorem own_d9_330 : decode method_4_code 330 = .ok (.iconst 2, 1) := by decide +kernel
theorem own_d9_331 : decode method_4_code 331 = .ok (.caload, 1) := by decide +kernel
theorem own_d9_332 : decode method_4_code 332 = .ok (.castore, 1) := by decide +kernel
theorem own_d9_333 : decode method_4_code 333 = .ok (.dup, 1) := by decide +kernel
theorem own_d9_334 : decode method_4_code 334 = .ok (.iconst 3, 1) := by decide +kernel
theorem own_d9_335 : decode method_4_code 335 = .ok (.aload_n 0, 1) := by decide +kernel
theorem own_d9_336 : decode method_4_code 336 = .ok (.iconst 3, 1) := by decide +kernel
theorem own_d9_337 : decode method_4_code 337 = .ok (.caload, 1) := by decide +kernel
theorem own_d9_338 : decode method_4_code 338 = .ok (.castore, 1) := by decide +kernel
theorem own_d9_339 : decode method_4_code 339 = .ok (.dup, 1) := by decide +kernel
theorem own_d9_340 : decode method_4_code 340 = .ok (.iconst 4, 1) := by decide +kernel
theorem own_d9_341 : decode method_4_code 341 = .ok (.aload_n 0, 1) := by decide +kernel
theorem own_d9_342 : decode method_4_code 342 = .ok (.iconst 4, 1) := by decide +kernel
theorem own_d9_343 : decode method_4_code 343 = .ok (.caload, 1) := by decide +kernel
theorem own_d9_344 : decode method_4_code 344 = .ok (.castore, 1) := by decide +kernel
theorem own_d9_345 : decode method_4_code 345 = .ok (.dup, 1) := by decide +kernel
theorem own_d9_346 : decode method_4_code 346 = .ok (.iconst 5, 1) := by decide +kernel
theorem own_d9_347 : decode method_4_code 347 = .ok (.aload_n 0, 1) := by decide +kernel
theorem own_d9_348 : decode method_4_code 348 = .ok (.iconst 5, 1) := by decide +kernel
theorem own_d9_349 : decode method_4_code 349 = .ok (.caload, 1) := by decide +kernel
theorem own_d9_350 : decode method_4_code 350 = .ok (.castore, 1) := by decide +kernel
theorem own_d9_351 : decode method_4_code 351 = .ok (.dup, 1) := by decide +kernel
theorem own_d9_352 : decode method_4_code 352 = .ok (.bipush 6, 2) := by decide +kernel
theorem own_d9_354 : decode method_4_code 354 = .ok (.aload_n 0, 1) := by decide +kernel
theorem own_d9_355 : decode method_4_code 355 = .ok (.bipush 6, 2) := by decide +kernel
theorem own_d9_357 : decode method_4_code 357 = .ok (.caload, 1) := by decide +kernel
theorem own_d9_358 : decode method_4_code 358 = .ok (.castore, 1) := by decide +kernel
theorem own_d9_359 : decode method_4_code 359 = .ok (.dup, 1) := by decide +kernel
theorem own_d9_360 : decode method_4_code 360 = .ok (.bipush 7, 2) := by decide +kernel
theorem own_d9_362 : decode method_4_code 362 = .ok (.aload_n 0, 1) := by decide +kernel
theorem own_d9_363 : decode method_4_code 363 = .ok (.bipush 7, 2) := by decide +kernel
theorem own_d9_365 : decode method_4_code 365 = .ok (.caload, 1) := by decide +kernel
theorem own_d9_366 : decode method_4_code 366 = .ok (.castore, 1) := by decide +kernel
theorem own_d9_367 : decode method_4_code 367 = .ok (.invokespecial 55, 3) := by decide +kernel
theorem own_d9_370 : decode method_4_code 370 = .ok (.areturn, 1) := by decide +kernel
theorem own_d9_371 : decode method_4_code 371 = .ok (.iload_n 1, 1) := by decide +kernel
theorem own_d9_372 : decode method_4_code 372 = .ok (.bipush 9, 2) := by decide +kernel
theorem own_d9_374 : decode method_4_code 374 = .ok (.if_icmp .ne 75, 3) := by decide +kernel
theorem own_d9_377 : decode method_4_code 377 = .ok (.new 31, 3) := by decide +kernel
theorem own_d9_380 : decode method_4_code 380 = .ok (.dup, 1) := by decide +kernel
theorem own_d9_381 : decode method_4_code 381 = .ok (.bipush 9, 2) := by decide +kernel
theorem own_d9_383 : decode method_4_code 383 = .ok (.newarray .char, 2) := by decide +kernel
theorem own_d9_385 : decode method_4_code 385 = .ok (.dup, 1) := by decide +kernel
theorem own_d9_386 : decode method_4_code 386 = .ok (.iconst 0, 1) := by decide +kernel
theorem own_d9_387 : decode method_4_code 387 = .ok (.aload_n 0, 1) := by decide +kernel
theorem own_d9_388 : decode method_4_code 388 = .ok (.iconst 0, 1) := by decide +kernel
theorem own_d9_389 : decode method_4_code 389 = .ok (.caload, 1) := by decide +kernel
theorem own_d9_390 : decode method_4_code 390 = .ok (.castore, 1) := by decide +kernel
theorem own_d9_391 : decode method_4_code 391 = .ok (.dup, 1) := by decide +kernel
theorem own_d9_392 : decode method_4_code 392 = .ok (.iconst 1, 1) := by decide +kernel
theorem own_d9_393 : decode method_4_code 393 = .ok (.aload_n 0, 1) := by decide +kernel
theorem own_d9_394 : decode method_4_code 394 = .ok (.iconst 1, 1) := by decide +kernel
theorem own_d9_395 : decode method_4_code 395 = .ok (.caload, 1) := by decide +kernel
theorem own_d9_396 : decode method_4_code 396 = .ok (.castore, 1) := by decide +kernel
theorem own_d9_397 : decode method_4_code 397 = .ok (.dup, 1) := by decide +kernel
theorem own_d9_398 : decode method_4_code 398 = .ok (.iconst 2, 1) := by decide +kernel
theorem own_d9_399 : decode method_4_code 399 = .ok (.aload_n 0, 1) := by decide +kernel
theorem own_d9_400 : decode method_4_code 400 = .ok (.iconst 2, 1) := by decide +kernel
theorem own_d9_401 : decode method_4_code 401 = .ok (.caload, 1) := by decide +kernel
theorem own_d9_402 : decode method_4_code 402 = .ok (.castore, 1) := by decide +kernel
theorem own_d9_403 : decode method_4_code 403 = .ok (.dup, 1) := by decide +kernel
theorem own_d9_404 : decode method_4_code 404 = .ok (.iconst 3, 1) := by decide +kernel
theorem own_d9_405 : decode method_4_code 405 = .ok (.aload_n 0, 1) := by decide +kernel
theorem own_d9_406 : decode method_4_code 406 = .ok (.iconst 3, 1) := by decide +kernel
theorem own_d9_407 : decode method_4_code 407 = .ok (.caload, 1) := by decide +kernel
theorem own_d9_408 : decode method_4_code 408 = .ok (.castore, 1) := by decide +kernel
theorem own_d9_409 : decode method_4_code 409 = .ok (.dup, 1) := by decide +kernel
theorem own_d9_410 : decode method_4_code 410 = .ok (.iconst 4, 1) := by decide +kernel
theorem own_d9_411 : decode method_4_code 411 = .ok (.aload_n 0, 1) := by decide +kernel
theorem own_d9_412 : decode method_4_code 412 = .ok (.iconst 4, 1) := by decide +kernel
theorem own_d9_413 : decode method_4_code 413 = .ok (.caload, 1) := by decide +kernel
theorem own_d9_414 : decode method_4_code 414 = .ok (.castore, 1) := by decide +kernel
theorem own_d9_415 : decode method_4_code 415 = .ok (.dup, 1) := by decide +kernel
theorem own_d9_416 : decode method_4_code 416 = .ok (.iconst 5, 1) := by decide +kernel
theorem own_d9_417 : decode method_4_code 417 = .ok (.aload_n 0, 1) := by decide +kernel
theorem own_d9_418 : decode method_4_code 418 = .ok (.iconst 5, 1) := by decide +kernel
theorem own_d9_419 : decode method_4_code 419 = .ok (.caload, 1) := by decide +kernel
theorem own_d9_420 : decode method_4_code 420 = .ok (.castore, 1) := by decide +kernel
theorem own_d9_421 : decode method_4_code 421 = .ok (.dup, 1) := by decide +kernel
theorem own_d9_422 : decode method_4_code 422 = .ok (.bipush 6, 2) := by decide +kernel
theorem own_d9_424 : decode method_4_code 424 = .ok (.aload_n 0, 1) := by decide +kernel
theorem own_d9_425 : decode method_4_code 425 = .ok (.bipush 6, 2) := by decide +kernel
theorem own_d9_427 : decode method_4_code 427 = .ok (.caload, 1) := by decide +kernel
theorem own_d9_428 : decode method_4_code 428 = .ok (.castore, 1) := by decide +kernel
theorem own_d9_429 : decode method_4_code 429 = .ok (.dup, 1) := by decide +kernel
theorem own_d9_430 : decode method_4_code 430 = .ok (.bipush 7, 2) := by decide +kernel
theorem own_d9_432 : decode method_4_code 432 = .ok (.aload_n 0, 1) := by decide +kernel
theorem own_d9_433 : decode method_4_code 433 = .ok (.bipush 7, 2) := by decide +kernel
theorem own_d9_435 : decode method_4_code 435 = .ok (.caload, 1) := by decide +kernel
theorem own_d9_436 : decode method_4_code 436 = .ok (.castore, 1) := by decide +kernel
theorem own_d9_437 : decode method_4_code 437 = .ok (.dup, 1) := by decide +kernel
theorem own_d9_438 : decode method_4_code 438 = .ok (.bipush 8, 2) := by decide +kernel
theorem own_d9_440 : decode method_4_code 440 = .ok (.aload_n 0, 1) := by decide +kernel
theorem own_d9_441 : decode method_4_code 441 = .ok (.bipush 8, 2) := by decide +kernel
theorem own_d9_443 : decode method_4_code 443 = .ok (.caload, 1) := by decide +kernel
theorem own_d9_444 : decode method_4_code 444 = .ok (.castore, 1) := by decide +kernel
theorem own_d9_445 : decode method_4_code 445 = .ok (.invokespecial 55, 3) := by decide +kernel
theorem own_d9_448 : decode method_4_code 448 = .ok (.areturn, 1) := by decide +kernel
theorem own_d9_449 : decode method_4_code 449 = .ok (.iload_n 1, 1) := by decide +kernel
theorem own_d9_450 : decode method_4_code 450 = .ok (.bipush 10, 2) := by decide +kernel
theorem own_d9_452 : decode method_4_code 452 = .ok (.if_icmp .ne 83, 3) := by decide +kernel
theorem own_d9_455 : decode method_4_code 455 = .ok (.new 31, 3) := by decide +kernel
theorem own_d9_458 : decode method_4_code 458 = .ok (.dup, 1) := by decide +kernel
theorem own_d9_459 : decode method_4_code 459 = .ok (.bipush 10, 2) := by decide +kernel
theorem own_d9_461 : decode method_4_code 461 = .ok (.newarray .char, 2) := by decide +kernel
theorem own_d9_463 : decode method_4_code 463 = .ok (.dup, 1) := by decide +kernel
theorem own_d9_464 : decode method_4_code 464 = .ok (.iconst 0, 1) := by decide +kernel
theorem own_d9_465 : decode method_4_code 465 = .ok (.aload_n 0, 1) := by decide +kernel
theorem own_d9_466 : decode method_4_code 466 = .ok (.iconst 0, 1) := by decide +kernel
theorem own_d9_467 : decode method_4_code 467 = .ok (.caload, 1) := by decide +kernel
theorem own_d9_468 : decode method_4_code 468 = .ok (.castore, 1) := by decide +kernel
theorem own_d9_469 : decode method_4_code 469 = .ok (.dup, 1) := by decide +kernel
theorem own_d9_470 : decode method_4_code 470 = .ok (.iconst 1, 1) := by decide +kernel
theorem own_d9_471 : decode method_4_code 471 = .ok (.aload_n 0, 1) := by decide +kernel
theorem own_d9_472 : decode method_4_code 472 = .ok (.iconst 1, 1) := by decide +kernel
theorem own_d9_473 : decode method_4_code 473 = .ok (.caload, 1) := by decide +kernel
theorem own_d9_474 : decode method_4_code 474 = .ok (.castore, 1) := by decide +kernel
theorem own_d9_475 : decode method_4_code 475 = .ok (.dup, 1) := by decide +kernel
theorem own_d9_476 : decode method_4_code 476 = .ok (.iconst 2, 1) := by decide +kernel
theorem own_d9_477 : decode method_4_code 477 = .ok (.aload_n 0, 1) := by decide +kernel
theorem own_d9_478 : decode method_4_code 478 = .ok (.iconst 2, 1) := by decide +kernel
theorem own_d9_479 : decode method_4_code 479 = .ok (.caload, 1) := by decide +kernel
theorem own_d9_480 : decode method_4_code 480 = .ok (.castore, 1) := by decide +kernel
theorem own_d9_481 : decode method_4_code 481 = .ok (.dup, 1) := by decide +kernel
theorem own_d9_482 : decode method_4_code 482 = .ok (.iconst 3, 1) := by decide +kernel
theorem own_d9_483 : decode method_4_code 483 = .ok (.aload_n 0, 1) := by decide +kernel
theorem own_d9_484 : decode method_4_code 484 = .ok (.iconst 3, 1) := by decide +kernel
theorem own_d9_485 : decode method_4_code 485 = .ok (.caload, 1) := by decide +kernel
theorem own_d9_486 : decode method_4_code 486 = .ok (.castore, 1) := by decide +kernel
theorem own_d9_487 : decode method_4_code 487 = .ok (.dup, 1) := by decide +kernel
theorem own_d9_488 : decode method_4_code 488 = .ok (.iconst 4, 1) := by decide +kernel
theorem own_d9_489 : decode method_4_code 489 = .ok (.aload_n 0, 1) := by decide +kernel
theorem own_d9_490 : decode method_4_code 490 = .ok (.iconst 4, 1) := by decide +kernel
theorem own_d9_491 : decode method_4_code 491 = .ok (.caload, 1) := by decide +kernel
theorem own_d9_492 : decode method_4_code 492 = .ok (.castore, 1) := by decide +kernel
theorem own_d9_493 : decode method_4_code 493 = .ok (.dup, 1) := by decide +kernel
theorem own_d9_494 : decode method_4_code 494 = .ok (.iconst 5, 1) := by decide +kernel
theorem own_d9_495 : decode method_4_code 495 = .ok (.aload_n 0, 1) := by decide +kernel
theorem own_d9_496 : decode method_4_code 496 = .ok (.iconst 5, 1) := by decide +kernel
theorem own_d9_497 : decode method_4_code 497 = .ok (.caload, 1) := by decide +kernel
theorem own_d9_498 : decode method_4_code 498 = .ok (.castore, 1) := by decide +kernel
theorem own_d9_499 : decode method_4_code 499 = .ok (.dup, 1) := by decide +kernel
theorem own_d9_500 : decode method_4_code 500 = .ok (.bipush 6, 2) := by decide +kernel
theorem own_d9_502 : decode method_4_code 502 = .ok (.aload_n 0, 1) := by decide +kernel
theorem own_d9_503 : decode method_4_code 503 = .ok (.bipush 6, 2) := by decide +kernel
theorem own_d9_505 : decode method_4_code 505 = .ok (.caload, 1) := by decide +kernel
theorem own_d9_506 : decode method_4_code 506 = .ok (.castore, 1) := by decide +kernel
theorem own_d9_507 : decode method_4_code 507 = .ok (.dup, 1) := by decide +kernel
theorem own_d9_508 : decode method_4_code 508 = .ok (.bipush 7, 2) := by decide +kernel
theorem own_d9_510 : decode method_4_code 510 = .ok (.aload_n 0, 1) := by decide +kernel
theorem own_d9_511 : decode method_4_code 511 = .ok (.bipush 7, 2) := by decide +kernel
theorem own_d9_513 : decode method_4_code 513 = .ok (.caload, 1) := by decide +kernel
theorem own_d9_514 : decode method_4_code 514 = .ok (.castore, 1) := by decide +kernel
theorem own_d9_515 : decode method_4_code 515 = .ok (.dup, 1) := by decide +kernel
theorem own_d9_516 : decode method_4_code 516 = .ok (.bipush 8, 2) := by decide +kernel
theorem own_d9_518 : decode method_4_code 518 = .ok (.aload_n 0, 1) := by decide +kernel
theorem own_d9_519 : decode method_4_code 519 = .ok (.bipush 8, 2) := by decide +kernel
theorem own_d9_521 : decode method_4_code 521 = .ok (.caload, 1) := by decide +kernel
theorem own_d9_522 : decode method_4_code 522 = .ok (.castore, 1) := by decide +kernel
theorem own_d9_523 : decode method_4_code 523 = .ok (.dup, 1) := by decide +kernel
theorem own_d9_524 : decode method_4_code 524 = .ok (.bipush 9, 2) := by decide +kernel
theorem own_d9_526 : decode method_4_code 526 = .ok (.aload_n 0, 1) := by decide +kernel
theorem own_d9_527 : decode method_4_code 527 = .ok (.bipush 9, 2) := by decide +kernel
theorem own_d9_529 : decode method_4_code 529 = .ok (.caload, 1) := by decide +kernel
theorem own_d9_530 : decode method_4_code 530 = .ok (.castore, 1) := by decide +kernel
theorem own_d9_531 : decode method_4_code 531 = .ok (.invokespecial 55, 3) := by decide +kernel
theorem own_d9_534 : decode method_4_code 534 = .ok (.areturn, 1) := by decide +kernel
theorem own_d9_535 : decode method_4_code 535 = .ok (.iload_n 1, 1) := by decide +kernel
theorem own_d9_536 : decode method_4_code 536 = .ok (.bipush 11, 2) := by decide +kernel
theorem own_d9_538 : decode method_4_code 538 = .ok (.if_icmp .ne 91, 3) := by decide +kernel
theorem own_d9_541 : decode method_4_code 541 = .ok (.new 31, 3) := by decide +kernel
theorem own_d9_544 : decode method_4_code 544 = .ok (.dup, 1) := by decide +kernel
theorem own_d9_545 : decode method_4_code 545 = .ok (.bipush 11, 2) := by decide +kernel
theorem own_d9_547 : decode method_4_code 547 = .ok (.newarray .char, 2) := by decide +kernel
theorem own_d9_549 : decode method_4_code 549 = .ok (.dup, 1) := by decide +kernel
theorem own_d9_550 : decode method_4_code 550 = .ok (.iconst 0, 1) := by decide +kernel
theorem own_d9_551 : decode method_4_code 551 = .ok (.aload_n 0, 1) := by decide +kernel
theorem own_d9_552 : decode method_4_code 552 = .ok (.iconst 0, 1) := by decide +kernel
theorem own_d9_553 : decode method_4_code 553 = .ok (.caload, 1) := by decide +kernel
theorem own_d9_554 : decode method_4_code 554 = .ok (.castore, 1) := by decide +kernel
theorem own_d9_555 : decode method_4_code 555 = .ok (.dup, 1) := by decide +kernel
theorem own_d9_556 : decode method_4_code 556 = .ok (.iconst 1, 1) := by decide +kernel
theorem own_d9_557 : decode method_4_code 557 = .ok (.aload_n 0, 1) := by decide +kernel
theorem own_d9_558 : decode method_4_code 558 = .ok (.iconst 1, 1) := by decide +kernel
theorem own_d9_559 : decode method_4_code 559 = .ok (.caload, 1) := by decide +kernel
theorem own_d9_560 : decode method_4_code 560 = .ok (.castore, 1) := by decide +kernel
theorem own_d9_561 : decode method_4_code 561 = .ok (.dup, 1) := by decide +kernel
theorem own_d9_562 : decode method_4_code 562 = .ok (.iconst 2, 1) := by decide +kernel
theorem own_d9_563 : decode method_4_code 563 = .ok (.aload_n 0, 1) := by decide +kernel
theorem own_d9_564 : decode method_4_code 564 = .ok (.iconst 2, 1) := by decide +kernel
theorem own_d9_565 : decode method_4_code 565 = .ok (.caload, 1) := by decide +kernel
theorem own_d9_566 : decode method_4_code 566 = .ok (.castore, 1) := by decide +kernel
theorem own_d9_567 : decode method_4_code 567 = .ok (.dup, 1) := by decide +kernel
theorem own_d9_568 : decode method_4_code 568 = .ok (.iconst 3, 1) := by decide +kernel
theorem own_d9_569 : decode method_4_code 569 = .ok (.aload_n 0, 1) := by decide +kernel
theorem own_d9_570 : decode method_4_code 570 = .ok (.iconst 3, 1) := by decide +kernel
theorem own_d9_571 : decode method_4_code 571 = .ok (.caload, 1) := by decide +kernel
theorem own_d9_572 : decode method_4_code 572 = .ok (.castore, 1) := by decide +kernel
theorem own_d9_573 : decode method_4_code 573 = .ok (.dup, 1) := by decide +kernel
theorem own_d9_574 : decode method_4_code 574 = .ok (.iconst 4, 1) := by decide +kernel
theorem own_d9_575 : decode method_4_code 575 = .ok (.aload_n 0, 1) := by decide +kernel
theorem own_d9_576 : decode method_4_code 576 = .ok (.iconst 4, 1) := by decide +kernel
theorem own_d9_577 : decode method_4_code 577 = .ok (.caload, 1) := by decide +kernel
theorem own_d9_578 : decode method_4_code 578 = .ok (.castore, 1) := by decide +kernel
theorem own_d9_579 : decode method_4_code 579 = .ok (.dup, 1) := by decide +kernel
theorem own_d9_580 : decode method_4_code 580 = .ok (.iconst 5, 1) := by decide +kernel
theorem own_d9_581 : decode method_4_code 581 = .ok (.aload_n 0, 1) := by decide +kernel
theorem own_d9_582 : decode method_4_code 582 = .ok (.iconst 5, 1) := by decide +kernel
theorem own_d9_583 : decode method_4_code 583 = .ok (.caload, 1) := by decide +kernel
theorem own_d9_584 : decode method_4_code 584 = .ok (.castore, 1) := by decide +kernel
theorem own_d9_585 : decode method_4_code 585 = .ok (.dup, 1) := by decide +kernel
theorem own_d9_586 : decode method_4_code 586 = .ok (.bipush 6, 2) := by decide +kernel
theorem own_d9_588 : decode method_4_code 588 = .ok (.aload_n 0, 1) := by decide +kernel
theorem own_d9_589 : decode method_4_code 589 = .ok (.bipush 6, 2) := by decide +kernel
theorem own_d9_591 : decode method_4_code 591 = .ok (.caload, 1) := by decide +kernel
theorem own_d9_592 : decode method_4_code 592 = .ok (.castore, 1) := by decide +kernel
theorem own_d9_593 : decode method_4_code 593 = .ok (.dup, 1) := by decide +kernel
theorem own_d9_594 : decode method_4_code 594 = .ok (.bipush 7, 2) := by decide +kernel
theorem own_d9_596 : decode method_4_code 596 = .ok (.aload_n 0, 1) := by decide +kernel
theorem own_d9_597 : decode method_4_code 597 = .ok (.bipush 7, 2) := by decide +kernel
theorem own_d9_599 : decode method_4_code 599 = .ok (.caload, 1) := by decide +kernel
theorem own_d9_600 : decode method_4_code 600 = .ok (.castore, 1) := by decide +kernel
theorem own_d9_601 : decode method_4_code 601 = .ok (.dup, 1) := by decide +kernel
theorem own_d9_602 : decode method_4_code 602 = .ok (.bipush 8, 2) := by decide +kernel
theorem own_d9_604 : decode method_4_code 604 = .ok (.aload_n 0, 1) := by decide +kernel
theorem own_d9_605 : decode method_4_code 605 = .ok (.bipush 8, 2) := by decide +kernel
theorem own_d9_607 : decode method_4_code 607 = .ok (.caload, 1) := by decide +kernel
theorem own_d9_608 : decode method_4_code 608 = .ok (.castore, 1) := by decide +kernel
theorem own_d9_609 : decode method_4_code 609 = .ok (.dup, 1) := by decide +kernel
theorem own_d9_610 : decode method_4_code 610 = .ok (.bipush 9, 2) := by decide +kernel
theorem own_d9_612 : decode method_4_code 612 = .ok (.aload_n 0, 1) := by decide +kernel
theorem own_d9_613 : decode method_4_code 613 = .ok (.bipush 9, 2) := by decide +kernel
theorem own_d9_615 : decode method_4_code 615 = .ok (.caload, 1) := by decide +kernel
theorem own_d9_616 : decode method_4_code 616 = .ok (.castore, 1) := by decide +kernel
theorem own_d9_617 : decode method_4_code 617 = .ok (.dup, 1) := by decide +kernel
theorem own_d9_618 : decode method_4_code 618 = .ok (.bipush 10, 2) := by decide +kernel
theorem own_d9_620 : decode method_4_code 620 = .ok (.aload_n 0, 1) := by decide +kernel
theorem own_d9_621 : decode method_4_code 621 = .ok (.bipush 10, 2) := by decide +kernel
theorem own_d9_623 : decode method_4_code 623 = .ok (.caload, 1) := by decide +kernel
theorem own_d9_624 : decode method_4_code 624 = .ok (.castore, 1) := by decide +kernel
theorem own_d9_625 : decode method_4_code 625 = .ok (.invokespecial 55, 3) := by decide +kernel
theorem own_d9_628 : decode method_4_code 628 = .ok (.areturn, 1) := by decide +kernel
theorem own_d9_629 : decode method_4_code 629 = .ok (.iload_n 1, 1) := by decide +kernel
theorem own_d9_630 : decode method_4_code 630 = .ok (.bipush 12, 2) := by decide +kernel
theorem own_d9_632 : decode method_4_code 632 = .ok (.if_icmp .ne 99, 3) := by decide +kernel
theorem own_d9_635 : decode method_4_code 635 = .ok (.new 31, 3) := by decide +kernel
theorem own_d9_638 : decode method_4_code 638 = .ok (.dup, 1) := by decide +kernel
theorem own_d9_639 : decode method_4_code 639 = .ok (.bipush 12, 2) := by decide +kernel
theorem own_d9_641 : decode method_4_code 641 = .ok (.newarray .char, 2) := by decide +kernel
theorem own_d9_643 : decode method_4_code 643 = .ok (.dup, 1) := by decide +kernel
theorem own_d9_644 : decode method_4_code 644 = .ok (.iconst 0, 1) := by decide +kernel
theorem own_d9_645 : decode method_4_code 645 = .ok (.aload_n 0, 1) := by decide +kernel
theorem own_d9_646 : decode method_4_code 646 = .ok (.iconst 0, 1) := by decide +kernel
theorem own_d9_647 : decode method_4_code 647 = .ok (.caload, 1) := by decide +kernel
theorem own_d9_648 : decode method_4_code 648 = .ok (.castore, 1) := by decide +kernel
theorem own_d9_649 : decode method_4_code 649 = .ok (.dup, 1) := by decide +kernel
theorem own_d9_650 : decode method_4_code 650 = .ok (.iconst 1, 1) := by decide +kernel
theorem own_d9_651 : decode method_4_code 651 = .ok (.aload_n 0, 1) := by decide +kernel
theorem own_d9_652 : decode method_4_code 652 = .ok (.iconst 1, 1) := by decide +kernel
theorem own_d9_653 : decode method_4_code 653 = .ok (.caload, 1) := by decide +kernel
theorem own_d9_654 : decode method_4_code 654 = .ok (.castore, 1) := by decide +kernel
theorem own_d9_655 : decode method_4_code 655 = .ok (.dup, 1) := by decide +kernel
theorem own_d9_656 : decode method_4_code 656 = .ok (.iconst 2, 1) := by decide +kernel
theorem own_d9_657 : decode method_4_code 657 = .ok (.aload_n 0, 1) := by decide +kernel
theorem own_d9_658 : decode method_4_code 658 = .ok (.iconst 2, 1) := by decide +kernel
theorem own_d9_659 : decode method_4_code 659 = .ok (.caload, 1) := by decide +kernel
theorem own_d9_660 : decode method_4_code 660 = .ok (.castore, 1) := by decide +kernel
theorem own_d9_661 : decode method_4_code 661 = .ok (.dup, 1) := by decide +kernel
theorem own_d9_662 : decode method_4_code 662 = .ok (.iconst 3, 1) := by decide +kernel
theorem own_d9_663 : decode method_4_code 663 = .ok (.aload_n 0, 1) := by decide +kernel
theorem own_d9_664 : decode method_4_code 664 = .ok (.iconst 3, 1) := by decide +kernel
theorem own_d9_665 : decode method_4_code 665 = .ok (.caload, 1) := by decide +kernel
theorem own_d9_666 : decode method_4_code 666 = .ok (.castore, 1) := by decide +kernel
theorem own_d9_667 : decode method_4_code 667 = .ok (.dup, 1) := by decide +kernel
theorem own_d9_668 : decode method_4_code 668 = .ok (.iconst 4, 1) := by decide +kernel
theorem own_d9_669 : decode method_4_code 669 = .ok (.aload_n 0, 1) := by decide +kernel
theorem own_d9_670 : decode method_4_code 670 = .ok (.iconst 4, 1) := by decide +kernel
theorem own_d9_671 : decode method_4_code 671 = .ok (.caload, 1) := by decide +kernel
theorem own_d9_672 : decode method_4_code 672 = .ok (.castore, 1) := by decide +kernel
theorem own_d9_673 : decode method_4_code 673 = .ok (.dup, 1) := by decide +kernel
theorem own_d9_674 : decode method_4_code 674 = .ok (.iconst 5, 1) := by decide +kernel
theorem own_d9_675 : decode method_4_code 675 = .ok (.aload_n 0, 1) := by decide +kernel
theorem own_d9_676 : decode method_4_code 676 = .ok (.iconst 5, 1) := by decide +kernel
theorem own_d9_677 : decode method_4_code 677 = .ok (.caload, 1) := by decide +kernel
theorem own_d9_678 : decode method_4_code 678 = .ok (.castore, 1) := by decide +kernel
theorem own_d9_679 : decode method_4_code 679 = .ok (.dup, 1) := by decide +kernel
theorem own_d9_680 : decode method_4_code 680 = .ok (.bipush 6, 2) := by decide +kernel
theorem own_d9_682 : decode method_4_code 682 = .ok (.aload_n 0, 1) := by decide +kernel
theorem own_d9_683 : decode method_4_code 683 = .ok (.bipush 6, 2) := by decide +kernel
theorem own_d9_685 : decode method_4_code 685 = .ok (.caload, 1) := by decide +kernel
theorem own_d9_686 : decode method_4_code 686 = .ok (.castore, 1) := by decide +kernel
theorem own_d9_687 : decode method_4_code 687 = .ok (.dup, 1) := by decide +kernel
theorem own_d9_688 : decode method_4_code 688 = .ok (.bipush 7, 2) := by decide +kernel
theorem own_d9_690 : decode method_4_code 690 = .ok (.aload_n 0, 1) := by decide +kernel
theorem own_d9_691 : decode method_4_code 691 = .ok (.bipush 7, 2) := by decide +kernel
theorem own_d9_693 : decode method_4_code 693 = .ok (.caload, 1) := by decide +kernel
theorem own_d9_694 : decode method_4_code 694 = .ok (.castore, 1) := by decide +kernel
theorem own_d9_695 : decode method_4_code 695 = .ok (.dup, 1) := by decide +kernel
theorem own_d9_696 : decode method_4_code 696 = .ok (.bipush 8, 2) := by decide +kernel
theorem own_d9_698 : decode method_4_code 698 = .ok (.aload_n 0, 1) := by decide +kernel
theorem own_d9_699 : decode method_4_code 699 = .ok (.bipush 8, 2) := by decide +kernel
theorem own_d9_701 : decode method_4_code 701 = .ok (.caload, 1) := by decide +kernel
theorem own_d9_702 : decode method_4_code 702 = .ok (.castore, 1) := by decide +kernel
theorem own_d9_703 : decode method_4_code 703 = .ok (.dup, 1) := by decide +kernel
theorem own_d9_704 : decode method_4_code 704 = .ok (.bipush 9, 2) := by decide +kernel
theorem own_d9_706 : decode method_4_code 706 = .ok (.aload_n 0, 1) := by decide +kernel
theorem own_d9_707 : decode method_4_code 707 = .ok (.bipush 9, 2) := by decide +kernel
theorem own_d9_709 : decode method_4_code 709 = .ok (.caload, 1) := by decide +kernel
theorem own_d9_710 : decode method_4_code 710 = .ok (.castore, 1) := by decide +kernel
theorem own_d9_711 : decode method_4_code 711 = .ok (.dup, 1) := by decide +kernel
theorem own_d9_712 : decode method_4_code 712 = .ok (.bipush 10, 2) := by decide +kernel
theorem own_d9_714 : decode method_4_code 714 = .ok (.aload_n 0, 1) := by decide +kernel
theorem own_d9_715 : decode method_4_code 715 = .ok (.bipush 10, 2) := by decide +kernel
theorem own_d9_717 : decode method_4_code 717 = .ok (.caload, 1) := by decide +kernel
theorem own_d9_718 : decode method_4_code 718 = .ok (.castore, 1) := by decide +kernel
theorem own_d9_719 : decode method_4_code 719 = .ok (.dup, 1) := by decide +kernel
theorem own_d9_720 : decode method_4_code 720 = .ok (.bipush 11, 2) := by decide +kernel
theorem own_d9_722 : decode method_4_code 722 = .ok (.aload_n 0, 1) := by decide +kernel
theorem own_d9_723 : decode method_4_code 723 = .ok (.bipush 11, 2) := by decide +kernel
theorem own_d9_725 : decode method_4_code 725 = .ok (.caload, 1) := by decide +kernel
theorem own_d9_726 : decode method_4_code 726 = .ok (.castore, 1) := by decide +kernel
theorem own_d9_727 : decode method_4_code 727 = .ok (.invokespecial 55, 3) := by decide +kernel
theorem own_d9_730 : decode method_4_code 730 = .ok (.areturn, 1) := by decide +kernel
theorem own_d9_731 : decode method_4_code 731 = .ok (.new 31, 3) := by decide +kernel
theorem own_d9_734 : decode method_4_code 734 = .ok (.dup, 1) := by decide +kernel
theorem own_d9_735 : decode method_4_code 735 = .ok (.bipush 13, 2) := by decide +kernel
theorem own_d9_737 : decode method_4_code 737 = .ok (.newarray .char, 2) := by decide +kernel
theorem own_d9_739 : decode method_4_code 739 = .ok (.dup, 1) := by decide +kernel
theorem own_d9_740 : decode method_4_code 740 = .ok (.iconst 0, 1) := by decide +kernel
theorem own_d9_741 : decode method_4_code 741 = .ok (.aload_n 0, 1) := by decide +kernel
theorem own_d9_742 : decode method_4_code 742 = .ok (.iconst 0, 1) := by decide +kernel
theorem own_d9_743 : decode method_4_code 743 = .ok (.caload, 1) := by decide +kernel
theorem own_d9_744 : decode method_4_code 744 = .ok (.castore, 1) := by decide +kernel
theorem own_d9_745 : decode method_4_code 745 = .ok (.dup, 1) := by decide +kernel
theorem own_d9_746 : decode method_4_code 746 = .ok (.iconst 1, 1) := by decide +kernel
theorem own_d9_747 : decode method_4_code 747 = .ok (.aload_n 0, 1) := by decide +kernel
theorem own_d9_748 : decode method_4_code 748 = .ok (.iconst 1, 1) := by decide +kernel
theorem own_d9_749 : decode method_4_code 749 = .ok (.caload, 1) := by decide +kernel
theorem own_d9_750 : decode method_4_code 750 = .ok (.castore, 1) := by decide +kernel
theorem own_d9_751 : decode method_4_code 751 = .ok (.dup, 1) := by decide +kernel
theorem own_d9_752 : decode method_4_code 752 = .ok (.iconst 2, 1) := by decide +kernel
theorem own_d9_753 : decode method_4_code 753 = .ok (.aload_n 0, 1) := by decide +kernel
theorem own_d9_754 : decode method_4_code 754 = .ok (.iconst 2, 1) := by decide +kernel
theorem own_d9_755 : decode method_4_code 755 = .ok (.caload, 1) := by decide +kernel
theorem own_d9_756 : decode method_4_code 756 = .ok (.castore, 1) := by decide +kernel
theorem own_d9_757 : decode method_4_code 757 = .ok (.dup, 1) := by decide +kernel
theorem own_d9_758 : decode method_4_code 758 = .ok (.iconst 3, 1) := by decide +kernel
theorem own_d9_759 : decode method_4_code 759 = .ok (.aload_n 0, 1) := by decide +kernel
theorem own_d9_760 : decode method_4_code 760 = .ok (.iconst 3, 1) := by decide +kernel
theorem own_d9_761 : decode method_4_code 761 = .ok (.caload, 1) := by decide +kernel
theorem own_d9_762 : decode method_4_code 762 = .ok (.castore, 1) := by decide +kernel
theorem own_d9_763 : decode method_4_code 763 = .ok (.dup, 1) := by decide +kernel
theorem own_d9_764 : decode method_4_code 764 = .ok (.iconst 4, 1) := by decide +kernel
theorem own_d9_765 : decode method_4_code 765 = .ok (.aload_n 0, 1) := by decide +kernel
theorem own_d9_766 : decode method_4_code 766 = .ok (.iconst 4, 1) := by decide +kernel
theorem own_d9_767 : decode method_4_code 767 = .ok (.caload, 1) := by decide +kernel
theorem own_d9_768 : decode method_4_code 768 = .ok (.castore, 1) := by decide +kernel
theorem own_d9_769 : decode method_4_code 769 = .ok (.dup, 1) := by decide +kernel
theorem own_d9_770 : decode method_4_code 770 = .ok (.iconst 5, 1) := by decide +kernel
theorem own_d9_771 : decode method_4_code 771 = .ok (.aload_n 0, 1) := by decide +kernel
theorem own_d9_772 : decode method_4_code 772 = .ok (.iconst 5, 1) := by decide +kernel
theorem own_d9_773 : decode method_4_code 773 = .ok (.caload, 1) := by decide +kernel
theorem own_d9_774 : decode method_4_code 774 = .ok (.castore, 1) := by decide +kernel
theorem own_d9_775 : decode method_4_code 775 = .ok (.dup, 1) := by decide +kernel
theorem own_d9_776 : decode method_4_code 776 = .ok (.bipush 6, 2) := by decide +kernel
theorem own_d9_778 : decode method_4_code 778 = .ok (.aload_n 0, 1) := by decide +kernel
theorem own_d9_779 : decode method_4_code 779 = .ok (.bipush 6, 2) := by decide +kernel
theorem own_d9_781 : decode method_4_code 781 = .ok (.caload, 1) := by decide +kernel
theorem own_d9_782 : decode method_4_code 782 = .ok (.castore, 1) := by decide +kernel
theorem own_d9_783 : decode method_4_code 783 = .ok (.dup, 1) := by decide +kernel
theorem own_d9_784 : decode method_4_code 784 = .ok (.bipush 7, 2) := by decide +kernel
theorem own_d9_786 : decode method_4_code 786 = .ok (.aload_n 0, 1) := by decide +kernel
theorem own_d9_787 : decode method_4_code 787 = .ok (.bipush 7, 2) := by decide +kernel
theorem own_d9_789 : decode method_4_code 789 = .ok (.caload, 1) := by decide +kernel
theorem own_d9_790 : decode method_4_code 790 = .ok (.castore, 1) := by decide +kernel
theorem own_d9_791 : decode method_4_code 791 = .ok (.dup, 1) := by decide +kernel
theorem own_d9_792 : decode method_4_code 792 = .ok (.bipush 8, 2) := by decide +kernel
theorem own_d9_794 : decode method_4_code 794 = .ok (.aload_n 0, 1) := by decide +kernel
theorem own_d9_795 : decode method_4_code 795 = .ok (.bipush 8, 2) := by decide +kernel
theorem own_d9_797 : decode method_4_code 797 = .ok (.caload, 1) := by decide +kernel
theorem own_d9_798 : decode method_4_code 798 = .ok (.castore, 1) := by decide +kernel
theorem own_d9_799 : decode method_4_code 799 = .ok (.dup, 1) := by decide +kernel
theorem own_d9_800 : decode method_4_code 800 = .ok (.bipush 9, 2) := by decide +kernel
theorem own_d9_802 : decode method_4_code 802 = .ok (.aload_n 0, 1) := by decide +kernel
theorem own_d9_803 : decode method_4_code 803 = .ok (.bipush 9, 2) := by decide +kernel
theorem own_d9_805 : decode method_4_code 805 = .ok (.caload, 1) := by decide +kernel
theorem own_d9_806 : decode method_4_code 806 = .ok (.castore, 1) := by decide +kernel
theorem own_d9_807 : decode method_4_code 807 = .ok (.dup, 1) := by decide +kernel
theorem own_d9_808 : decode method_4_code 808 = .ok (.bipush 10, 2) := by decide +kernel
theorem own_d9_810 : decode method_4_code 810 = .ok (.aload_n 0, 1) := by decide +kernel
theorem own_d9_811 : decode method_4_code 811 = .ok (.bipush 10, 2) := by decide +kernel
theorem own_d9_813 : decode method_4_code 813 = .ok (.caload, 1) := by decide +kernel
theorem own_d9_814 : decode method_4_code 814 = .ok (.castore, 1) := by decide +kernel
theorem own_d9_815 : decode method_4_code 815 = .ok (.dup, 1) := by decide +kernel
theorem own_d9_816 : decode method_4_code 816 = .ok (.bipush 11, 2) := by decide +kernel
theorem own_d9_818 : decode method_4_code 818 = .ok (.aload_n 0, 1) := by decide +kernel
theorem own_d9_819 : decode method_4_code 819 = .ok (.bipush 11, 2) := by decide +kernel
theorem own_d9_821 : decode method_4_code 821 = .ok (.caload, 1) := by decide +kernel
theorem own_d9_822 : decode method_4_code 822 = .ok (.castore, 1) := by decide +kernel
theorem own_d9_823 : decode method_4_code 823 = .ok (.dup, 1) := by decide +kernel
theorem own_d9_824 : decode method_4_code 824 = .ok (.bipush 12, 2) := by decide +kernel
theorem own_d9_826 : decode method_4_code 826 = .ok (.aload_n 0, 1) := by decide +kernel
theorem own_d9_827 : decode method_4_code 827 = .ok (.bipush 12, 2) := by decide +kernel
theorem own_d9_829 : decode method_4_code 829 = .ok (.caload, 1) := by decide +kernel
theorem own_d9_830 : decode method_4_code 830 = .ok (.castore, 1) := by decide +kernel
theorem own_d9_831 : decode method_4_code 831 = .ok (.invokespecial 55, 3) := by decide +kernel
theorem own_d9_834 : decode method_4_code 834 = .ok (.areturn, 1) := by decide +kernel
theorem own_ef9 (m : MethodId) (x0 : Addr) (x1 : Int32) : entryFrame m #[(.ref x0), (.int x1)] 2 = mkF m 0 #[.val (.ref x0), .val (.int x1)] [] := by first | (simp [entryFrame, mkF, argsToLocals, Value.category]; done) | rfl
def own_Q_own_prefix (Z : State) (ar : Addr) (n1 : Int32) (Ts : List String) (cz : Int32) (ka : ClassId) (AA : List Int32) (nn : Nat) (h0 : Heap) (n0 : Nat) (v : Option Value) (h : Heap) (L : List Loc) : Prop := ∃ (sg b : Addr) (kb : ClassId), v = some (.ref sg) ∧ Fr n0 L ∧ Keep h0 h [] ∧ Exa Z h sg "java/lang/String" ∧ Fld Z h sg "java/lang/String" "coder" "B" (.int 0) ∧ Fld Z h sg "java/lang/String" "value" "[B" (.ref b) ∧ Arv Z h b kb .byte (Int32.ofNat (AA.take nn).length) (List.map (fun c => Value.int (StrChars.lo8 c)) (AA.take nn)) (.int 0)
set_option maxRecDepth 65536 in
set_option maxHeartbeats 40000000 in
theorem own_prefix (l : Launch) (Z : State) (a0 : Array Value) (hw : ∀ d ∈ tables_1, d.before a0 Z = true) (ws : List Jvm.Cond) (ar : Addr) (n1 : Int32) (Ts : List String) (cz : Int32) (ka : ClassId) (AA : List Int32) (nn : Nat) (h0 : Heap) (n0 : Nat) (Z0 : n0 ≤ h0.size) (O : Old Z n0 h0) (HC : Jvm.Lit.constHeld Z "java/lang/String" 7) (hcw : Jvm.Lit.compactW.before a0 Z = true) (hno : "" ∉ Ts) (S0 : Sta Z Z.heap "java/lang/String" "COMPACT_STRINGS" "Z" (.int cz)) (hcz : ¬ cz = 0) (Va : Arv Z h0 ar ka .char (14 : Int32) (List.map Value.int AA) (.int 0)) (okA : own_ok AA) (hA : AA.length = 14) (hnn : n1 = Int32.ofNat nn) (hn13 : nn ≤ 13) :
    MetFree l (⟨"com/example/millrace/millrace/definition/NodeKindOfElementPinLaw", "prefix", "([CI)Ljava/lang/String;"⟩ : MethodName) (head1 (Jvm.Cond.code (⟨"com/example/millrace/millrace/definition/NodeKindOfElementPinLaw", "prefix", "([CI)Ljava/lang/String;"⟩ : MethodName) method_4_code 2 (some (.object "java/lang/String")) :: ws) ({ frames := 4, cells := 4, slots := 30, locals := 66 } : Room)) (fun as_ U => as_ = #[(.ref ar), (.int n1)] ∧ Z.Warmed39 U.vm ∧ U.heap = h0 ∧ IB Z U.vm Ts) (fun _ _ _ _ _ => True) (fun _ U o U' => ∃ v L, o = .returned v ∧ own_Q_own_prefix Z ar n1 Ts cz ka AA nn h0 n0 v U'.heap L ∧ ReturnedEndW U o U' L ({ frames := 4, cells := 4, slots := 30, locals := 66 } : Room).cells ({ frames := 4, cells := 4, slots := 30, locals := 66 } : Room).slots) := by
  refine MetFree.of_bodySF (plainFor_of_name own_pn0) hisR ?_
  intro p e s m args below meth c s₁ Bd hml0 hP hK
  obtain ⟨rfl, hZ, hh, hI⟩ := hP
  have hx := Bd.exec
  have hby := Bd.bytes
  have hml : c.maxLocals = 2 := hml0
  have hown : s.vm.findClass "com/example/millrace/millrace/definition/NodeKindOfElementPinLaw" = some m.cls := findClass_of_methodNamed Bd.named
  have hnm := (name_of_methodNamed Bd.named Bd.method).1
  have X0 : Stand p l e ({ frames := 4, cells := 4, slots := 30, locals := 66 } : Room) (s.setVm s.vm) m #[(.ref ar), (.int n1)] below meth c s₁ [] 0 0 := Stand.of_body Bd
  have e0 : s₁.heap = h0 := by rw [← hh, Bd.state]; rfl
  have N0 := Fr.nil n0
  have pre0 : ∀ t, Steps p.tables e below (s₁.setTop (mkF m 0 #[.val (.ref ar), .val (.int n1)] [])) t → Steps p.tables e below (s₁.setTop (entryFrame m #[(.ref ar), (.int n1)] 2)) t := fun t k => castTop (own_ef9 m ar n1) k
  have hS : s.Since s.vm 0 := (State.WarmedH.refl s).since 0
  have hk : 0 ≤ h0.size := Nat.zero_le _
  have hZ : Z.Warmed39 (s.setVm s.vm).vm := hZ
  have hown : (s.setVm s.vm).vm.findClass "com/example/millrace/millrace/definition/NodeKindOfElementPinLaw" = some m.cls := hown
  have hI : IB Z (s.setVm s.vm).vm Ts := hI
  obtain ⟨c0, c1, c2, c3, c4, c5, c6, c7, c8, c9, c10, c11, c12, c13, eA⟩ := own_l14 hA
  rw [eA] at Va okA
  have nc0 : nar .char c0 = c0 := own_c8 (okA c0 (by simp))
  have nc1 : nar .char c1 = c1 := own_c8 (okA c1 (by simp))
  have nc2 : nar .char c2 = c2 := own_c8 (okA c2 (by simp))
  have nc3 : nar .char c3 = c3 := own_c8 (okA c3 (by simp))
  have nc4 : nar .char c4 = c4 := own_c8 (okA c4 (by simp))
  have nc5 : nar .char c5 = c5 := own_c8 (okA c5 (by simp))
  have nc6 : nar .char c6 = c6 := own_c8 (okA c6 (by simp))
  have nc7 : nar .char c7 = c7 := own_c8 (okA c7 (by simp))
  have nc8 : nar .char c8 = c8 := own_c8 (okA c8 (by simp))
  have nc9 : nar .char c9 = c9 := own_c8 (okA c9 (by simp))
  have nc10 : nar .char c10 = c10 := own_c8 (okA c10 (by simp))
  have nc11 : nar .char c11 = c11 := own_c8 (okA c11 (by simp))
  have nc12 : nar .char c12 = c12 := own_c8 (okA c12 (by simp))
  have KP := Keep.refl h0 ([] : List Addr)
  have pre1 : ∀ t, Steps p.tables e below (s₁.setTop (mkF m 1 #[.val (.ref ar), .val (.int n1)] [(.int n1)])) t → Steps p.tables e below (s₁.setTop (entryFrame m #[(.ref ar), (.int n1)] 2)) t := fun t k => pre0 t (by
    show Steps p.tables e below (s₁.setTop (mkF m 0 #[.val (.ref ar), .val (.int n1)] [])) _
    refine XS.iloadN X0.here hx rfl (hb hby own_d9_0) rfl ?_
    show Steps p.tables e below (s₁.setTop (mkF m 1 #[.val (.ref ar), .val (.int n1)] [(.int n1)])) _
    exact k)
  by_cases hc2 : n1 = (0 : Int32)
  · skip
    as_aux_lemma =>
      obtain ⟨T3, h3, X3, e3, E3, A3, D3, U3, st3⟩ := newO X0 hx hZ hown (hw _ (own_m (i := 54) rfl)) (hw _ (own_m (i := 2) rfl)) (hw _ (own_m (i := 1) rfl)) e0 (g := (mkF m 4 #[.val (.ref ar), .val (.int n1)] [])) rfl (hb hby own_d9_4) (by decide) (by decide)
      obtain ⟨b3, g3⟩ : ∃ z, z = h0.size := ⟨_, rfl⟩
      rw [← g3] at A3 D3 U3 st3
      have g_b3 : n0 ≤ b3 := Nat.le_trans Z0 (Nat.le_of_eq g3.symm)
      have sz_b3 : h0.size ≤ b3 := Nat.le_trans KP.1 (Nat.le_of_eq g3.symm)
      have ne_ar_b3 : ar ≠ b3 := Nat.ne_of_lt (Nat.lt_of_lt_of_le Va.lt (Nat.le_of_eq g3.symm))
      have O := O.ext E3
      have Va := Va.ext E3
      have hk := Nat.le_trans hk E3.1
      have Z4 : n0 ≤ h3.size := Nat.le_trans Z0 E3.1
      have KP := KP.ext E3
      have F_value_b3 : Fld Z h3 b3 "java/lang/String" "value" "[B" .null := D3 (Or.inr (hw _ (own_m (i := 4) rfl))) (ty := (.array .byte)) (by decide)
      have F_coder_b3 : Fld Z h3 b3 "java/lang/String" "coder" "B" (.int 0) := D3 (Or.inr (hw _ (own_m (i := 5) rfl))) (ty := .byte) (by decide)
      have E_b3 := A3
      obtain ⟨T5, h5, k5, X5, e5, E5, A5, st5⟩ := newP X3 hx hZ (hw _ (own_m (i := 24) rfl)) e3 (g := (mkF m 9 #[.val (.ref ar), .val (.int n1)] [(.int 0), (.ref b3), (.ref b3)])) rfl (hb hby own_d9_9) rfl (by decide) (cap := 0) (by decide) (by decide) (by decide) (by decide)
      obtain ⟨b5, g5⟩ : ∃ z, z = h3.size := ⟨_, rfl⟩
      rw [← g5] at A5 st5
      have g_b5 : n0 ≤ b5 := Nat.le_trans Z4 (Nat.le_of_eq g5.symm)
      have sz_b5 : h0.size ≤ b5 := Nat.le_trans KP.1 (Nat.le_of_eq g5.symm)
      have ne_ar_b5 : ar ≠ b5 := Nat.ne_of_lt (Nat.lt_of_lt_of_le Va.lt (Nat.le_of_eq g5.symm))
      have ne_b3_b5 : b3 ≠ b5 := Nat.ne_of_lt (Nat.lt_of_lt_of_le F_value_b3.lt (Nat.le_of_eq g5.symm))
      have O := O.ext E5
      have Va := Va.ext E5
      have F_value_b3 := F_value_b3.ext E5
      have F_coder_b3 := F_coder_b3.ext E5
      have E_b3 := E_b3.ext E5
      have hk := Nat.le_trans hk E5.1
      have Z6 : n0 ≤ h5.size := Nat.le_trans Z4 E5.1
      have KP := KP.ext E5
      have V_b5 : Arv Z h5 b5 k5 .char (0 : Int32) [] (.int 0) := (Arv.new A5 (by decide)).pad (pad_rep [] (.int 0) 0)
      have pre8 : ∀ t, Steps p.tables e below (T5.setTop (mkF m 11 #[.val (.ref ar), .val (.int n1)] [(.ref b5), (.ref b3), (.ref b3)])) t → Steps p.tables e below (s₁.setTop (entryFrame m #[(.ref ar), (.int n1)] 2)) t := fun t k => pre1 t (by
        refine XS.ifNo X0.here hx rfl (hb hby own_d9_1) rfl ((if0 _ _).trans (teq hc2).2) ?_
        show Steps p.tables e below (s₁.setTop (mkF m 4 #[.val (.ref ar), .val (.int n1)] [])) _
        refine st3 _ ?_
        show Steps p.tables e below (T3.setTop (mkF m 7 #[.val (.ref ar), .val (.int n1)] [(.ref b3)])) _
        refine XS.dup X3.here hx rfl (hb hby own_d9_7) rfl rfl ?_
        show Steps p.tables e below (T3.setTop (mkF m 8 #[.val (.ref ar), .val (.int n1)] [(.ref b3), (.ref b3)])) _
        refine XS.iconst X3.here hx rfl (hb hby own_d9_8) ?_
        show Steps p.tables e below (T3.setTop (mkF m 9 #[.val (.ref ar), .val (.int n1)] [(.int 0), (.ref b3), (.ref b3)])) _
        refine st5 _ ?_
        show Steps p.tables e below (T5.setTop (mkF m 11 #[.val (.ref ar), .val (.int n1)] [(.ref b5), (.ref b3), (.ref b3)])) _
        exact k)
      obtain ⟨_, _, ⟨T7, L7, k7, n7⟩, -, X7, hS7, hg7, ⟨Lc7, hQ7, l7, y7, z7⟩, st7⟩ := X5.specialBackS hx (y := (⟨"java/lang/String", "<init>", "([C)V"⟩ : MethodName)) rfl hown (mvT hZ (hw _ (own_m (i := 55) rfl))) (mvT hZ (hw _ (own_m (i := 56) rfl))) (mvT hZ (hw _ (own_m (i := 57) rfl))) (by decide) (own_backOfSB (W := 1) (own_sic0 l Z a0 hw [] b3 b5 Ts k5 h5 n0 Z6 (O) HC hcw hno E_b3 F_coder_b3 F_value_b3 g_b3 V_b5) hZ hI (hw _ (own_m (i := 57) rfl)) (hw _ (own_m (i := 1) rfl)) (by decide) (by decide)) (g := (mkF m 11 #[.val (.ref ar), .val (.int n1)] [(.ref b5), (.ref b3), (.ref b3)])) rfl (by rw [hml]; rfl) (Steps.refl _) (a := b3) (argsL := [(.ref b5)]) (rest := [(.ref b3)]) (lenOf own_pd4 rfl) rfl (by show 2 * 0 + _ ≤ _; exact Nat.le_of_eq rfl) (hb hby own_d9_11) (fun _ _ => ⟨rfl, e5, (by decide : 2 + 2 ≤ _), (by decide : 4 + 4 ≤ _)⟩)
      dsimp only [Pt.U, Pt.locs, Pt.cells, Pt.slots] at X7 l7 y7 z7 st7 hQ7 hS7 hg7
      subst l7 y7 z7
      obtain ⟨X7, hS, hZ, hown⟩ := rebS hS (show _ ≤ T5.heap.size by rw [e5]; exact hk) X7 hS7 hg7 hZ hown
      obtain ⟨b7, kb7, rfl, N7q, K7, Ee7, Fc7, Fv7, VB7⟩ := hQ7
      have N7 := Fr.app N0 N7q
      have O := O.keep K7 (allS g_b3 all0)
      have Va := Va.keep K7 (ninS ne_ar_b3 nin0)
      have E_b3 := E_b3.keep K7
      have V_b5 := V_b5.keep K7 (ninS (Ne.symm ne_b3_b5) nin0)
      have Z9 := Nat.le_trans Z6 K7.1
      have KP := KP.trans K7 (allS (Or.inr sz_b3) all0)
      have hk := Nat.le_refl T7.heap.size
      obtain ⟨fs, hr, hrun, hended, hRW⟩ := X7.leaveW hS hk (v := some (.ref b3)) (fun h => by rw [Bd.returns] at h; cases h)
      refine ⟨_, _, pre8 _ ?_, hrun, hended, _, _, rfl, ?_, hRW.1, hRW.2.1, hRW.2.2.1, hRW.2.2.2.mono (by decide) (by decide)⟩
      · refine st7.trans ?_
        show Steps p.tables e below (T7.setTop (mkF m 14 #[.val (.ref ar), .val (.int n1)] [(.ref b3)])) _
        exact retOut X7 hx (t := (.object "java/lang/String")) Bd.returns rfl (Or.inr (Or.inr (Or.inr (Or.inr ⟨rfl, rfl, rfl⟩)))) (hb hby own_d9_14) hr
      have hnk : nn = 0 := own_nk hnn hc2 hn13 (by decide)
      · show own_Q_own_prefix Z ar n1 Ts cz ka AA nn h0 n0 _ T7.heap _
        subst hnk
        exact ⟨b3, b7, kb7, rfl, N7, KP, Ee7, Fc7, Fv7, by rw [eA]; exact VB7⟩
  have pre10 : ∀ t, Steps p.tables e below (s₁.setTop (mkF m 17 #[.val (.ref ar), .val (.int n1)] [(.int 1), (.int n1)])) t → Steps p.tables e below (s₁.setTop (entryFrame m #[(.ref ar), (.int n1)] 2)) t := fun t k => pre1 t (by
    refine XS.ifYes X0.here hx rfl (pc0 := 1) (pc' := 15) rfl (hb hby own_d9_1) rfl ((if0 _ _).trans (feq hc2).2) (by decide) (by decide) ?_
    show Steps p.tables e below (s₁.setTop (mkF m 15 #[.val (.ref ar), .val (.int n1)] [])) _
    refine XS.iloadN X0.here hx rfl (hb hby own_d9_15) rfl ?_
    show Steps p.tables e below (s₁.setTop (mkF m 16 #[.val (.ref ar), .val (.int n1)] [(.int n1)])) _
    refine XS.iconst X0.here hx rfl (hb hby own_d9_16) ?_
    show Steps p.tables e below (s₁.setTop (mkF m 17 #[.val (.ref ar), .val (.int n1)] [(.int 1), (.int n1)])) _
    exact k)
  by_cases hc11 : n1 = (1 : Int32)
  · skip
    as_aux_lemma =>
      obtain ⟨T12, h12, X12, e12, E12, A12, D12, U12, st12⟩ := newO X0 hx hZ hown (hw _ (own_m (i := 54) rfl)) (hw _ (own_m (i := 2) rfl)) (hw _ (own_m (i := 1) rfl)) e0 (g := (mkF m 20 #[.val (.ref ar), .val (.int n1)] [])) rfl (hb hby own_d9_20) (by decide) (by decide)
      obtain ⟨b12, g12⟩ : ∃ z, z = h0.size := ⟨_, rfl⟩
      rw [← g12] at A12 D12 U12 st12
      have g_b12 : n0 ≤ b12 := Nat.le_trans Z0 (Nat.le_of_eq g12.symm)
      have sz_b12 : h0.size ≤ b12 := Nat.le_trans KP.1 (Nat.le_of_eq g12.symm)
      have ne_ar_b12 : ar ≠ b12 := Nat.ne_of_lt (Nat.lt_of_lt_of_le Va.lt (Nat.le_of_eq g12.symm))
      have O := O.ext E12
      have Va := Va.ext E12
      have hk := Nat.le_trans hk E12.1
      have Z13 : n0 ≤ h12.size := Nat.le_trans Z0 E12.1
      have KP := KP.ext E12
      have F_value_b12 : Fld Z h12 b12 "java/lang/String" "value" "[B" .null := D12 (Or.inr (hw _ (own_m (i := 4) rfl))) (ty := (.array .byte)) (by decide)
      have F_coder_b12 : Fld Z h12 b12 "java/lang/String" "coder" "B" (.int 0) := D12 (Or.inr (hw _ (own_m (i := 5) rfl))) (ty := .byte) (by decide)
      have E_b12 := A12
      obtain ⟨T14, h14, k14, X14, e14, E14, A14, st14⟩ := newP X12 hx hZ (hw _ (own_m (i := 24) rfl)) e12 (g := (mkF m 25 #[.val (.ref ar), .val (.int n1)] [(.int 1), (.ref b12), (.ref b12)])) rfl (hb hby own_d9_25) rfl (by decide) (cap := 1) (by decide) (by decide) (by decide) (by decide)
      obtain ⟨b14, g14⟩ : ∃ z, z = h12.size := ⟨_, rfl⟩
      rw [← g14] at A14 st14
      have g_b14 : n0 ≤ b14 := Nat.le_trans Z13 (Nat.le_of_eq g14.symm)
      have sz_b14 : h0.size ≤ b14 := Nat.le_trans KP.1 (Nat.le_of_eq g14.symm)
      have ne_ar_b14 : ar ≠ b14 := Nat.ne_of_lt (Nat.lt_of_lt_of_le Va.lt (Nat.le_of_eq g14.symm))
      have ne_b12_b14 : b12 ≠ b14 := Nat.ne_of_lt (Nat.lt_of_lt_of_le F_value_b12.lt (Nat.le_of_eq g14.symm))
      have O := O.ext E14
      have Va := Va.ext E14
      have F_value_b12 := F_value_b12.ext E14
      have F_coder_b12 := F_coder_b12.ext E14
      have E_b12 := E_b12.ext E14
      have hk := Nat.le_trans hk E14.1
      have Z15 : n0 ≤ h14.size := Nat.le_trans Z13 E14.1
      have KP := KP.ext E14
      have V_b14 : Arv Z h14 b14 k14 .char (1 : Int32) [(.int 0)] (.int 0) := (Arv.new A14 (by decide)).pad (pad_rep [] (.int 0) 1)
      obtain ⟨cl16, Ar16, q16, S16, M16, H16, G16⟩ := id Va
      have hin16 : ¬ ((0 : Int32) < 0 ∨ cl16.slots.size ≤ ((0 : Int32)).toNatClampNeg) := inb_of S16 ⟨by decide, by decide⟩
      obtain ⟨cl17, Ar17, q17, S17, M17, H17, G17⟩ := id V_b14
      have hin17 : ¬ ((0 : Int32) < 0 ∨ cl17.slots.size ≤ ((0 : Int32)).toNatClampNeg) := inb_of S17 ⟨by decide, by decide⟩
      obtain ⟨T18, h18, X18, e18, W18, st18⟩ := stC X14 hx hZ e14 Ar17 (j := (0 : Int32)) hin17 (g := (mkF m 32 #[.val (.ref ar), .val (.int n1)] [(.int c0), (.int 0), (.ref b14), (.ref b14), (.ref b12), (.ref b12)])) rfl rfl (hb hby own_d9_32)
      have O := O.wr W18 g_b14
      have Va := Va.other W18 ne_ar_b14
      have F_value_b12 := F_value_b12.other W18 (Or.inl ne_b12_b14)
      have F_coder_b12 := F_coder_b12.other W18 (Or.inl ne_b12_b14)
      have E_b12 := E_b12.wr W18
      have hk := Nat.le_trans hk (Keep.of_wr W18).1
      have Z19 : n0 ≤ h18.size := Nat.le_trans Z15 (Keep.of_wr W18).1
      have KP := KP.wr W18 (Or.inr sz_b14)
      have V_b14 := Arv.set Ar17 q17 S17 M17 H17 G17 (fits_nar_char _) W18 0 rfl (Nat.le_of_ble_eq_true rfl)
      have V_b14 : Arv Z h18 b14 k14 .char (1 : Int32) [(.int c0)] (.int 0) := by have q := V_b14; simp only [nc0, List.set] at q; exact q
      have N18 := Fr.snoc X18 N0 g_b14
      obtain ⟨_, _, ⟨T20, L20, k20, n20⟩, -, X20, ⟨Lc20, hQ20, l20, y20, z20⟩, st20⟩ := X18.specialBack hx (y := (⟨"java/lang/String", "<init>", "([C)V"⟩ : MethodName)) rfl hown (mvT hZ (hw _ (own_m (i := 55) rfl))) (mvT hZ (hw _ (own_m (i := 56) rfl))) (mvT hZ (hw _ (own_m (i := 57) rfl))) (by decide) (StrChars.Road.backV (W := 1) hZ (fun d hd => hw d ((by decide +kernel : ∀ d ∈ StrChars.Road.words, d ∈ tables_1) d hd)) (kI := 4) (hw _ (own_m (i := 2) rfl)) (cs := ([c0] : List Int32)) (bs := List.map (fun c => c.toInt8.toInt32) ([c0] : List Int32)) (n := 1) (n0 := n0) g_b12 Z19 E_b12 F_value_b12 F_coder_b12 V_b14 (S0.ext O.2) hcz rfl rfl (by decide) (by decide) (fun c hc => okA c (List.mem_of_mem_take (i := 1) hc)) rfl (by decide) (by decide)) (g := (mkF m 33 #[.val (.ref ar), .val (.int n1)] [(.ref b14), (.ref b12), (.ref b12)])) rfl (by rw [hml]; rfl) (Steps.refl _) (a := b12) (argsL := [(.ref b14)]) (rest := [(.ref b12)]) (lenOf own_pd4 rfl) rfl (by show 2 * 0 + _ ≤ _; exact Nat.le_of_eq rfl) (hb hby own_d9_33) (fun _ _ => ⟨rfl, e18, (by decide : 2 + 1 ≤ _), (by decide : 5 + 1 ≤ _)⟩)
      dsimp only [Pt.U, Pt.locs, Pt.cells, Pt.slots] at X20 l20 y20 z20 st20 hQ20
      subst l20 y20 z20
      obtain ⟨rfl, N20q, K20, Ee20, Fc20, b20, kb20, g120, sz20, nx20, Fv20, VB20⟩ := hQ20
      have N20 := Fr.app N18 N20q
      have O := O.keep K20 (allS g_b12 all0)
      have E_b12 := E_b12.keep K20
      have V_b14 := V_b14.keep K20 (ninS (Ne.symm ne_b12_b14) nin0)
      have hk := Nat.le_trans hk K20.1
      have Z21 := Nat.le_trans Z19 K20.1
      have KP := KP.trans K20 (allS (Or.inr sz_b12) all0)
      obtain ⟨fs, hr, hrun, hended, hRW⟩ := X20.leaveW hS hk (v := some (.ref b12)) (fun h => by rw [Bd.returns] at h; cases h)
      refine ⟨_, _, pre10 _ ?_, hrun, hended, _, _, rfl, ?_, hRW.1, hRW.2.1, hRW.2.2.1, hRW.2.2.2.mono (by decide) (by decide)⟩
      · refine XS.icmpNo X0.here hx rfl (hb hby own_d9_17) rfl (teq hc11).2 ?_
        show Steps p.tables e below (s₁.setTop (mkF m 20 #[.val (.ref ar), .val (.int n1)] [])) _
        refine st12 _ ?_
        show Steps p.tables e below (T12.setTop (mkF m 23 #[.val (.ref ar), .val (.int n1)] [(.ref b12)])) _
        refine XS.dup X12.here hx rfl (hb hby own_d9_23) rfl rfl ?_
        show Steps p.tables e below (T12.setTop (mkF m 24 #[.val (.ref ar), .val (.int n1)] [(.ref b12), (.ref b12)])) _
        refine XS.iconst X12.here hx rfl (hb hby own_d9_24) ?_
        show Steps p.tables e below (T12.setTop (mkF m 25 #[.val (.ref ar), .val (.int n1)] [(.int 1), (.ref b12), (.ref b12)])) _
        refine st14 _ ?_
        show Steps p.tables e below (T14.setTop (mkF m 27 #[.val (.ref ar), .val (.int n1)] [(.ref b14), (.ref b12), (.ref b12)])) _
        refine XS.dup X14.here hx rfl (hb hby own_d9_27) rfl rfl ?_
        show Steps p.tables e below (T14.setTop (mkF m 28 #[.val (.ref ar), .val (.int n1)] [(.ref b14), (.ref b14), (.ref b12), (.ref b12)])) _
        refine XS.iconst X14.here hx rfl (hb hby own_d9_28) ?_
        show Steps p.tables e below (T14.setTop (mkF m 29 #[.val (.ref ar), .val (.int n1)] [(.int 0), (.ref b14), (.ref b14), (.ref b12), (.ref b12)])) _
        refine XS.aloadN X14.here hx rfl (hb hby own_d9_29) rfl rfl ?_
        show Steps p.tables e below (T14.setTop (mkF m 30 #[.val (.ref ar), .val (.int n1)] [(.ref ar), (.int 0), (.ref b14), (.ref b14), (.ref b12), (.ref b12)])) _
        refine XS.iconst X14.here hx rfl (hb hby own_d9_30) ?_
        show Steps p.tables e below (T14.setTop (mkF m 31 #[.val (.ref ar), .val (.int n1)] [(.int 0), (.ref ar), (.int 0), (.ref b14), (.ref b14), (.ref b12), (.ref b12)])) _
        refine X14.caload hx (j := (0 : Int32)) (v := (.int c0)) (by rw [e14]; exact Ar16.1) (State.isArrayOf_alike hZ.alike Ar16.2.1) Ar16.2.2 hin16 (H16.at hin16 rfl) (g := (mkF m 31 #[.val (.ref ar), .val (.int n1)] [(.int 0), (.ref ar), (.int 0), (.ref b14), (.ref b14), (.ref b12), (.ref b12)])) rfl rfl (hb hby own_d9_31) _ ?_
        show Steps p.tables e below (T14.setTop (mkF m 32 #[.val (.ref ar), .val (.int n1)] [(.int c0), (.int 0), (.ref b14), (.ref b14), (.ref b12), (.ref b12)])) _
        refine st18 _ ?_
        show Steps p.tables e below (T18.setTop (mkF m 33 #[.val (.ref ar), .val (.int n1)] [(.ref b14), (.ref b12), (.ref b12)])) _
        refine st20.trans ?_
        show Steps p.tables e below (T20.setTop (mkF m 36 #[.val (.ref ar), .val (.int n1)] [(.ref b12)])) _
        exact retOut X20 hx (t := (.object "java/lang/String")) Bd.returns rfl (Or.inr (Or.inr (Or.inr (Or.inr ⟨rfl, rfl, rfl⟩)))) (hb hby own_d9_36) hr
      have hnk : nn = 1 := own_nk hnn hc11 hn13 (by decide)
      · show own_Q_own_prefix Z ar n1 Ts cz ka AA nn h0 n0 _ T20.heap _
        subst hnk
        exact ⟨b12, b20, kb20, rfl, N20, KP, Ee20, Fc20, Fv20, by rw [eA]; exact VB20⟩
  have pre22 : ∀ t, Steps p.tables e below (s₁.setTop (mkF m 39 #[.val (.ref ar), .val (.int n1)] [(.int 2), (.int n1)])) t → Steps p.tables e below (s₁.setTop (entryFrame m #[(.ref ar), (.int n1)] 2)) t := fun t k => pre10 t (by
    refine XS.icmpYes X0.here hx rfl (pc0 := 17) (pc' := 37) rfl (hb hby own_d9_17) rfl (feq hc11).2 (by decide) (by decide) ?_
    show Steps p.tables e below (s₁.setTop (mkF m 37 #[.val (.ref ar), .val (.int n1)] [])) _
    refine XS.iloadN X0.here hx rfl (hb hby own_d9_37) rfl ?_
    show Steps p.tables e below (s₁.setTop (mkF m 38 #[.val (.ref ar), .val (.int n1)] [(.int n1)])) _
    refine XS.iconst X0.here hx rfl (hb hby own_d9_38) ?_
    show Steps p.tables e below (s₁.setTop (mkF m 39 #[.val (.ref ar), .val (.int n1)] [(.int 2), (.int n1)])) _
    exact k)
  by_cases hc23 : n1 = (2 : Int32)
  · skip
    as_aux_lemma =>
      obtain ⟨T24, h24, X24, e24, E24, A24, D24, U24, st24⟩ := newO X0 hx hZ hown (hw _ (own_m (i := 54) rfl)) (hw _ (own_m (i := 2) rfl)) (hw _ (own_m (i := 1) rfl)) e0 (g := (mkF m 42 #[.val (.ref ar), .val (.int n1)] [])) rfl (hb hby own_d9_42) (by decide) (by decide)
      obtain ⟨b24, g24⟩ : ∃ z, z = h0.size := ⟨_, rfl⟩
      rw [← g24] at A24 D24 U24 st24
      have g_b24 : n0 ≤ b24 := Nat.le_trans Z0 (Nat.le_of_eq g24.symm)
      have sz_b24 : h0.size ≤ b24 := Nat.le_trans KP.1 (Nat.le_of_eq g24.symm)
      have ne_ar_b24 : ar ≠ b24 := Nat.ne_of_lt (Nat.lt_of_lt_of_le Va.lt (Nat.le_of_eq g24.symm))
      have O := O.ext E24
      have Va := Va.ext E24
      have hk := Nat.le_trans hk E24.1
      have Z25 : n0 ≤ h24.size := Nat.le_trans Z0 E24.1
      have KP := KP.ext E24
      have F_value_b24 : Fld Z h24 b24 "java/lang/String" "value" "[B" .null := D24 (Or.inr (hw _ (own_m (i := 4) rfl))) (ty := (.array .byte)) (by decide)
      have F_coder_b24 : Fld Z h24 b24 "java/lang/String" "coder" "B" (.int 0) := D24 (Or.inr (hw _ (own_m (i := 5) rfl))) (ty := .byte) (by decide)
      have E_b24 := A24
      obtain ⟨T26, h26, k26, X26, e26, E26, A26, st26⟩ := newP X24 hx hZ (hw _ (own_m (i := 24) rfl)) e24 (g := (mkF m 47 #[.val (.ref ar), .val (.int n1)] [(.int 2), (.ref b24), (.ref b24)])) rfl (hb hby own_d9_47) rfl (by decide) (cap := 2) (by decide) (by decide) (by decide) (by decide)
      obtain ⟨b26, g26⟩ : ∃ z, z = h24.size := ⟨_, rfl⟩
      rw [← g26] at A26 st26
      have g_b26 : n0 ≤ b26 := Nat.le_trans Z25 (Nat.le_of_eq g26.symm)
      have sz_b26 : h0.size ≤ b26 := Nat.le_trans KP.1 (Nat.le_of_eq g26.symm)
      have ne_ar_b26 : ar ≠ b26 := Nat.ne_of_lt (Nat.lt_of_lt_of_le Va.lt (Nat.le_of_eq g26.symm))
      have ne_b24_b26 : b24 ≠ b26 := Nat.ne_of_lt (Nat.lt_of_lt_of_le F_value_b24.lt (Nat.le_of_eq g26.symm))
      have O := O.ext E26
      have Va := Va.ext E26
      have F_value_b24 := F_value_b24.ext E26
      have F_coder_b24 := F_coder_b24.ext E26
      have E_b24 := E_b24.ext E26
      have hk := Nat.le_trans hk E26.1
      have Z27 : n0 ≤ h26.size := Nat.le_trans Z25 E26.1
      have KP := KP.ext E26
      have V_b26 : Arv Z h26 b26 k26 .char (2 : Int32) [(.int 0), (.int 0)] (.int 0) := (Arv.new A26 (by decide)).pad (pad_rep [] (.int 0) 2)
      obtain ⟨cl28, Ar28, q28, S28, M28, H28, G28⟩ := id Va
      have hin28 : ¬ ((0 : Int32) < 0 ∨ cl28.slots.size ≤ ((0 : Int32)).toNatClampNeg) := inb_of S28 ⟨by decide, by decide⟩
      obtain ⟨cl29, Ar29, q29, S29, M29, H29, G29⟩ := id V_b26
      have hin29 : ¬ ((0 : Int32) < 0 ∨ cl29.slots.size ≤ ((0 : Int32)).toNatClampNeg) := inb_of S29 ⟨by decide, by decide⟩
      obtain ⟨T30, h30, X30, e30, W30, st30⟩ := stC X26 hx hZ e26 Ar29 (j := (0 : Int32)) hin29 (g := (mkF m 54 #[.val (.ref ar), .val (.int n1)] [(.int c0), (.int 0), (.ref b26), (.ref b26), (.ref b24), (.ref b24)])) rfl rfl (hb hby own_d9_54)
      have O := O.wr W30 g_b26
      have Va := Va.other W30 ne_ar_b26
      have F_value_b24 := F_value_b24.other W30 (Or.inl ne_b24_b26)
      have F_coder_b24 := F_coder_b24.other W30 (Or.inl ne_b24_b26)
      have E_b24 := E_b24.wr W30
      have hk := Nat.le_trans hk (Keep.of_wr W30).1
      have Z31 : n0 ≤ h30.size := Nat.le_trans Z27 (Keep.of_wr W30).1
      have KP := KP.wr W30 (Or.inr sz_b26)
      have V_b26 := Arv.set Ar29 q29 S29 M29 H29 G29 (fits_nar_char _) W30 0 rfl (Nat.le_of_ble_eq_true rfl)
      have V_b26 : Arv Z h30 b26 k26 .char (2 : Int32) [(.int c0), (.int 0)] (.int 0) := by have q := V_b26; simp only [nc0, List.set] at q; exact q
      have N30 := Fr.snoc X30 N0 g_b26
      obtain ⟨cl32, Ar32, q32, S32, M32, H32, G32⟩ := id Va
      have hin32 : ¬ ((1 : Int32) < 0 ∨ cl32.slots.size ≤ ((1 : Int32)).toNatClampNeg) := inb_of S32 ⟨by decide, by decide⟩
      obtain ⟨cl33, Ar33, q33, S33, M33, H33, G33⟩ := id V_b26
      have hin33 : ¬ ((1 : Int32) < 0 ∨ cl33.slots.size ≤ ((1 : Int32)).toNatClampNeg) := inb_of S33 ⟨by decide, by decide⟩
      obtain ⟨T34, h34, X34, e34, W34, st34⟩ := stC X30 hx hZ e30 Ar33 (j := (1 : Int32)) hin33 (g := (mkF m 60 #[.val (.ref ar), .val (.int n1)] [(.int c1), (.int 1), (.ref b26), (.ref b26), (.ref b24), (.ref b24)])) rfl rfl (hb hby own_d9_60)
      have O := O.wr W34 g_b26
      have Va := Va.other W34 ne_ar_b26
      have F_value_b24 := F_value_b24.other W34 (Or.inl ne_b24_b26)
      have F_coder_b24 := F_coder_b24.other W34 (Or.inl ne_b24_b26)
      have E_b24 := E_b24.wr W34
      have hk := Nat.le_trans hk (Keep.of_wr W34).1
      have Z35 : n0 ≤ h34.size := Nat.le_trans Z31 (Keep.of_wr W34).1
      have KP := KP.wr W34 (Or.inr sz_b26)
      have V_b26 := Arv.set Ar33 q33 S33 M33 H33 G33 (fits_nar_char _) W34 1 rfl (Nat.le_of_ble_eq_true rfl)
      have V_b26 : Arv Z h34 b26 k26 .char (2 : Int32) [(.int c0), (.int c1)] (.int 0) := by have q := V_b26; simp only [nc1, List.set] at q; exact q
      have N34 := Fr.snoc X34 N30 g_b26
      obtain ⟨_, _, ⟨T36, L36, k36, n36⟩, -, X36, ⟨Lc36, hQ36, l36, y36, z36⟩, st36⟩ := X34.specialBack hx (y := (⟨"java/lang/String", "<init>", "([C)V"⟩ : MethodName)) rfl hown (mvT hZ (hw _ (own_m (i := 55) rfl))) (mvT hZ (hw _ (own_m (i := 56) rfl))) (mvT hZ (hw _ (own_m (i := 57) rfl))) (by decide) (StrChars.Road.backV (W := 1) hZ (fun d hd => hw d ((by decide +kernel : ∀ d ∈ StrChars.Road.words, d ∈ tables_1) d hd)) (kI := 4) (hw _ (own_m (i := 2) rfl)) (cs := ([c0, c1] : List Int32)) (bs := List.map (fun c => c.toInt8.toInt32) ([c0, c1] : List Int32)) (n := 2) (n0 := n0) g_b24 Z35 E_b24 F_value_b24 F_coder_b24 V_b26 (S0.ext O.2) hcz rfl rfl (by decide) (by decide) (fun c hc => okA c (List.mem_of_mem_take (i := 2) hc)) rfl (by decide) (by decide)) (g := (mkF m 61 #[.val (.ref ar), .val (.int n1)] [(.ref b26), (.ref b24), (.ref b24)])) rfl (by rw [hml]; rfl) (Steps.refl _) (a := b24) (argsL := [(.ref b26)]) (rest := [(.ref b24)]) (lenOf own_pd4 rfl) rfl (by show 2 * 0 + _ ≤ _; exact Nat.le_of_eq rfl) (hb hby own_d9_61) (fun _ _ => ⟨rfl, e34, (by decide : 2 + 1 ≤ _), (by decide : 6 + 2 ≤ _)⟩)
      dsimp only [Pt.U, Pt.locs, Pt.cells, Pt.slots] at X36 l36 y36 z36 st36 hQ36
      subst l36 y36 z36
      obtain ⟨rfl, N36q, K36, Ee36, Fc36, b36, kb36, g136, sz36, nx36, Fv36, VB36⟩ := hQ36
      have N36 := Fr.app N34 N36q
      have O := O.keep K36 (allS g_b24 all0)
      have E_b24 := E_b24.keep K36
      have V_b26 := V_b26.keep K36 (ninS (Ne.symm ne_b24_b26) nin0)
      have hk := Nat.le_trans hk K36.1
      have Z37 := Nat.le_trans Z35 K36.1
      have KP := KP.trans K36 (allS (Or.inr sz_b24) all0)
      obtain ⟨fs, hr, hrun, hended, hRW⟩ := X36.leaveW hS hk (v := some (.ref b24)) (fun h => by rw [Bd.returns] at h; cases h)
      refine ⟨_, _, pre22 _ ?_, hrun, hended, _, _, rfl, ?_, hRW.1, hRW.2.1, hRW.2.2.1, hRW.2.2.2.mono (by decide) (by decide)⟩
      · refine XS.icmpNo X0.here hx rfl (hb hby own_d9_39) rfl (teq hc23).2 ?_
        show Steps p.tables e below (s₁.setTop (mkF m 42 #[.val (.ref ar), .val (.int n1)] [])) _
        refine st24 _ ?_
        show Steps p.tables e below (T24.setTop (mkF m 45 #[.val (.ref ar), .val (.int n1)] [(.ref b24)])) _
        refine XS.dup X24.here hx rfl (hb hby own_d9_45) rfl rfl ?_
        show Steps p.tables e below (T24.setTop (mkF m 46 #[.val (.ref ar), .val (.int n1)] [(.ref b24), (.ref b24)])) _
        refine XS.iconst X24.here hx rfl (hb hby own_d9_46) ?_
        show Steps p.tables e below (T24.setTop (mkF m 47 #[.val (.ref ar), .val (.int n1)] [(.int 2), (.ref b24), (.ref b24)])) _
        refine st26 _ ?_
        show Steps p.tables e below (T26.setTop (mkF m 49 #[.val (.ref ar), .val (.int n1)] [(.ref b26), (.ref b24), (.ref b24)])) _
        refine XS.dup X26.here hx rfl (hb hby own_d9_49) rfl rfl ?_
        show Steps p.tables e below (T26.setTop (mkF m 50 #[.val (.ref ar), .val (.int n1)] [(.ref b26), (.ref b26), (.ref b24), (.ref b24)])) _
        refine XS.iconst X26.here hx rfl (hb hby own_d9_50) ?_
        show Steps p.tables e below (T26.setTop (mkF m 51 #[.val (.ref ar), .val (.int n1)] [(.int 0), (.ref b26), (.ref b26), (.ref b24), (.ref b24)])) _
        refine XS.aloadN X26.here hx rfl (hb hby own_d9_51) rfl rfl ?_
        show Steps p.tables e below (T26.setTop (mkF m 52 #[.val (.ref ar), .val (.int n1)] [(.ref ar), (.int 0), (.ref b26), (.ref b26), (.ref b24), (.ref b24)])) _
        refine XS.iconst X26.here hx rfl (hb hby own_d9_52) ?_
        show Steps p.tables e below (T26.setTop (mkF m 53 #[.val (.ref ar), .val (.int n1)] [(.int 0), (.ref ar), (.int 0), (.ref b26), (.ref b26), (.ref b24), (.ref b24)])) _
        refine X26.caload hx (j := (0 : Int32)) (v := (.int c0)) (by rw [e26]; exact Ar28.1) (State.isArrayOf_alike hZ.alike Ar28.2.1) Ar28.2.2 hin28 (H28.at hin28 rfl) (g := (mkF m 53 #[.val (.ref ar), .val (.int n1)] [(.int 0), (.ref ar), (.int 0), (.ref b26), (.ref b26), (.ref b24), (.ref b24)])) rfl rfl (hb hby own_d9_53) _ ?_
        show Steps p.tables e below (T26.setTop (mkF m 54 #[.val (.ref ar), .val (.int n1)] [(.int c0), (.int 0), (.ref b26), (.ref b26), (.ref b24), (.ref b24)])) _
        refine st30 _ ?_
        show Steps p.tables e below (T30.setTop (mkF m 55 #[.val (.ref ar), .val (.int n1)] [(.ref b26), (.ref b24), (.ref b24)])) _
        refine XS.dup X30.here hx rfl (hb hby own_d9_55) rfl rfl ?_
        show Steps p.tables e below (T30.setTop (mkF m 56 #[.val (.ref ar), .val (.int n1)] [(.ref b26), (.ref b26), (.ref b24), (.ref b24)])) _
        refine XS.iconst X30.here hx rfl (hb hby own_d9_56) ?_
        show Steps p.tables e below (T30.setTop (mkF m 57 #[.val (.ref ar), .val (.int n1)] [(.int 1), (.ref b26), (.ref b26), (.ref b24), (.ref b24)])) _
        refine XS.aloadN X30.here hx rfl (hb hby own_d9_57) rfl rfl ?_
        show Steps p.tables e below (T30.setTop (mkF m 58 #[.val (.ref ar), .val (.int n1)] [(.ref ar), (.int 1), (.ref b26), (.ref b26), (.ref b24), (.ref b24)])) _
        refine XS.iconst X30.here hx rfl (hb hby own_d9_58) ?_
        show Steps p.tables e below (T30.setTop (mkF m 59 #[.val (.ref ar), .val (.int n1)] [(.int 1), (.ref ar), (.int 1), (.ref b26), (.ref b26), (.ref b24), (.ref b24)])) _
        refine X30.caload hx (j := (1 : Int32)) (v := (.int c1)) (by rw [e30]; exact Ar32.1) (State.isArrayOf_alike hZ.alike Ar32.2.1) Ar32.2.2 hin32 (H32.at hin32 rfl) (g := (mkF m 59 #[.val (.ref ar), .val (.int n1)] [(.int 1), (.ref ar), (.int 1), (.ref b26), (.ref b26), (.ref b24), (.ref b24)])) rfl rfl (hb hby own_d9_59) _ ?_
        show Steps p.tables e below (T30.setTop (mkF m 60 #[.val (.ref ar), .val (.int n1)] [(.int c1), (.int 1), (.ref b26), (.ref b26), (.ref b24), (.ref b24)])) _
        refine st34 _ ?_
        show Steps p.tables e below (T34.setTop (mkF m 61 #[.val (.ref ar), .val (.int n1)] [(.ref b26), (.ref b24), (.ref b24)])) _
        refine st36.trans ?_
        show Steps p.tables e below (T36.setTop (mkF m 64 #[.val (.ref ar), .val (.int n1)] [(.ref b24)])) _
        exact retOut X36 hx (t := (.object "java/lang/String")) Bd.returns rfl (Or.inr (Or.inr (Or.inr (Or.inr ⟨rfl, rfl, rfl⟩)))) (hb hby own_d9_64) hr
      have hnk : nn = 2 := own_nk hnn hc23 hn13 (by decide)
      · show own_Q_own_prefix Z ar n1 Ts cz ka AA nn h0 n0 _ T36.heap _
        subst hnk
        exact ⟨b24, b36, kb36, rfl, N36, KP, Ee36, Fc36, Fv36, by rw [eA]; exact VB36⟩
  have pre38 : ∀ t, Steps p.tables e below (s₁.setTop (mkF m 67 #[.val (.ref ar), .val (.int n1)] [(.int 3), (.int n1)])) t → Steps p.tables e below (s₁.setTop (entryFrame m #[(.ref ar), (.int n1)] 2)) t := fun t k => pre22 t (by
    refine XS.icmpYes X0.here hx rfl (pc0 := 39) (pc' := 65) rfl (hb hby own_d9_39) rfl (feq hc23).2 (by decide) (by decide) ?_
    show Steps p.tables e below (s₁.setTop (mkF m 65 #[.val (.ref ar), .val (.int n1)] [])) _
    refine XS.iloadN X0.here hx rfl (hb hby own_d9_65) rfl ?_
    show Steps p.tables e below (s₁.setTop (mkF m 66 #[.val (.ref ar), .val (.int n1)] [(.int n1)])) _
    refine XS.iconst X0.here hx rfl (hb hby own_d9_66) ?_
    show Steps p.tables e below (s₁.setTop (mkF m 67 #[.val (.ref ar), .val (.int n1)] [(.int 3), (.int n1)])) _
    exact k)
  by_cases hc39 : n1 = (3 : Int32)
  · skip
    as_aux_lemma =>
      obtain ⟨T40, h40, X40, e40, E40, A40, D40, U40, st40⟩ := newO X0 hx hZ hown (hw _ (own_m (i := 54) rfl)) (hw _ (own_m (i := 2) rfl)) (hw _ (own_m (i := 1) rfl)) e0 (g := (mkF m 70 #[.val (.ref ar), .val (.int n1)] [])) rfl (hb hby own_d9_70) (by decide) (by decide)
      obtain ⟨b40, g40⟩ : ∃ z, z = h0.size := ⟨_, rfl⟩
      rw [← g40] at A40 D40 U40 st40
      have g_b40 : n0 ≤ b40 := Nat.le_trans Z0 (Nat.le_of_eq g40.symm)
      have sz_b40 : h0.size ≤ b40 := Nat.le_trans KP.1 (Nat.le_of_eq g40.symm)
      have ne_ar_b40 : ar ≠ b40 := Nat.ne_of_lt (Nat.lt_of_lt_of_le Va.lt (Nat.le_of_eq g40.symm))
      have O := O.ext E40
      have Va := Va.ext E40
      have hk := Nat.le_trans hk E40.1
      have Z41 : n0 ≤ h40.size := Nat.le_trans Z0 E40.1
      have KP := KP.ext E40
      have F_value_b40 : Fld Z h40 b40 "java/lang/String" "value" "[B" .null := D40 (Or.inr (hw _ (own_m (i := 4) rfl))) (ty := (.array .byte)) (by decide)
      have F_coder_b40 : Fld Z h40 b40 "java/lang/String" "coder" "B" (.int 0) := D40 (Or.inr (hw _ (own_m (i := 5) rfl))) (ty := .byte) (by decide)
      have E_b40 := A40
      obtain ⟨T42, h42, k42, X42, e42, E42, A42, st42⟩ := newP X40 hx hZ (hw _ (own_m (i := 24) rfl)) e40 (g := (mkF m 75 #[.val (.ref ar), .val (.int n1)] [(.int 3), (.ref b40), (.ref b40)])) rfl (hb hby own_d9_75) rfl (by decide) (cap := 3) (by decide) (by decide) (by decide) (by decide)
      obtain ⟨b42, g42⟩ : ∃ z, z = h40.size := ⟨_, rfl⟩
      rw [← g42] at A42 st42
      have g_b42 : n0 ≤ b42 := Nat.le_trans Z41 (Nat.le_of_eq g42.symm)
      have sz_b42 : h0.size ≤ b42 := Nat.le_trans KP.1 (Nat.le_of_eq g42.symm)
      have ne_ar_b42 : ar ≠ b42 := Nat.ne_of_lt (Nat.lt_of_lt_of_le Va.lt (Nat.le_of_eq g42.symm))
      have ne_b40_b42 : b40 ≠ b42 := Nat.ne_of_lt (Nat.lt_of_lt_of_le F_value_b40.lt (Nat.le_of_eq g42.symm))
      have O := O.ext E42
      have Va := Va.ext E42
      have F_value_b40 := F_value_b40.ext E42
      have F_coder_b40 := F_coder_b40.ext E42
      have E_b40 := E_b40.ext E42
      have hk := Nat.le_trans hk E42.1
      have Z43 : n0 ≤ h42.size := Nat.le_trans Z41 E42.1
      have KP := KP.ext E42
      have V_b42 : Arv Z h42 b42 k42 .char (3 : Int32) [(.int 0), (.int 0), (.int 0)] (.int 0) := (Arv.new A42 (by decide)).pad (pad_rep [] (.int 0) 3)
      obtain ⟨cl44, Ar44, q44, S44, M44, H44, G44⟩ := id Va
      have hin44 : ¬ ((0 : Int32) < 0 ∨ cl44.slots.size ≤ ((0 : Int32)).toNatClampNeg) := inb_of S44 ⟨by decide, by decide⟩
      obtain ⟨cl45, Ar45, q45, S45, M45, H45, G45⟩ := id V_b42
      have hin45 : ¬ ((0 : Int32) < 0 ∨ cl45.slots.size ≤ ((0 : Int32)).toNatClampNeg) := inb_of S45 ⟨by decide, by decide⟩
      obtain ⟨T46, h46, X46, e46, W46, st46⟩ := stC X42 hx hZ e42 Ar45 (j := (0 : Int32)) hin45 (g := (mkF m 82 #[.val (.ref ar), .val (.int n1)] [(.int c0), (.int 0), (.ref b42), (.ref b42), (.ref b40), (.ref b40)])) rfl rfl (hb hby own_d9_82)
      have O := O.wr W46 g_b42
      have Va := Va.other W46 ne_ar_b42
      have F_value_b40 := F_value_b40.other W46 (Or.inl ne_b40_b42)
      have F_coder_b40 := F_coder_b40.other W46 (Or.inl ne_b40_b42)
      have E_b40 := E_b40.wr W46
      have hk := Nat.le_trans hk (Keep.of_wr W46).1
      have Z47 : n0 ≤ h46.size := Nat.le_trans Z43 (Keep.of_wr W46).1
      have KP := KP.wr W46 (Or.inr sz_b42)
      have V_b42 := Arv.set Ar45 q45 S45 M45 H45 G45 (fits_nar_char _) W46 0 rfl (Nat.le_of_ble_eq_true rfl)
      have V_b42 : Arv Z h46 b42 k42 .char (3 : Int32) [(.int c0), (.int 0), (.int 0)] (.int 0) := by have q := V_b42; simp only [nc0, List.set] at q; exact q
      have N46 := Fr.snoc X46 N0 g_b42
      obtain ⟨cl48, Ar48, q48, S48, M48, H48, G48⟩ := id Va
      have hin48 : ¬ ((1 : Int32) < 0 ∨ cl48.slots.size ≤ ((1 : Int32)).toNatClampNeg) := inb_of S48 ⟨by decide, by decide⟩
      obtain ⟨cl49, Ar49, q49, S49, M49, H49, G49⟩ := id V_b42
      have hin49 : ¬ ((1 : Int32) < 0 ∨ cl49.slots.size ≤ ((1 : Int32)).toNatClampNeg) := inb_of S49 ⟨by decide, by decide⟩
      obtain ⟨T50, h50, X50, e50, W50, st50⟩ := stC X46 hx hZ e46 Ar49 (j := (1 : Int32)) hin49 (g := (mkF m 88 #[.val (.ref ar), .val (.int n1)] [(.int c1), (.int 1), (.ref b42), (.ref b42), (.ref b40), (.ref b40)])) rfl rfl (hb hby own_d9_88)
      have O := O.wr W50 g_b42
      have Va := Va.other W50 ne_ar_b42
      have F_value_b40 := F_value_b40.other W50 (Or.inl ne_b40_b42)
      have F_coder_b40 := F_coder_b40.other W50 (Or.inl ne_b40_b42)
      have E_b40 := E_b40.wr W50
      have hk := Nat.le_trans hk (Keep.of_wr W50).1
      have Z51 : n0 ≤ h50.size := Nat.le_trans Z47 (Keep.of_wr W50).1
      have KP := KP.wr W50 (Or.inr sz_b42)
      have V_b42 := Arv.set Ar49 q49 S49 M49 H49 G49 (fits_nar_char _) W50 1 rfl (Nat.le_of_ble_eq_true rfl)
      have V_b42 : Arv Z h50 b42 k42 .char (3 : Int32) [(.int c0), (.int c1), (.int 0)] (.int 0) := by have q := V_b42; simp only [nc1, List.set] at q; exact q
      have N50 := Fr.snoc X50 N46 g_b42
      obtain ⟨cl52, Ar52, q52, S52, M52, H52, G52⟩ := id Va
      have hin52 : ¬ ((2 : Int32) < 0 ∨ cl52.slots.size ≤ ((2 : Int32)).toNatClampNeg) := inb_of S52 ⟨by decide, by decide⟩
      obtain ⟨cl53, Ar53, q53, S53, M53, H53, G53⟩ := id V_b42
      have hin53 : ¬ ((2 : Int32) < 0 ∨ cl53.slots.size ≤ ((2 : Int32)).toNatClampNeg) := inb_of S53 ⟨by decide, by decide⟩
      obtain ⟨T54, h54, X54, e54, W54, st54⟩ := stC X50 hx hZ e50 Ar53 (j := (2 : Int32)) hin53 (g := (mkF m 94 #[.val (.ref ar), .val (.int n1)] [(.int c2), (.int 2), (.ref b42), (.ref b42), (.ref b40), (.ref b40)])) rfl rfl (hb hby own_d9_94)
      have O := O.wr W54 g_b42
      have Va := Va.other W54 ne_ar_b42
      have F_value_b40 := F_value_b40.other W54 (Or.inl ne_b40_b42)
      have F_coder_b40 := F_coder_b40.other W54 (Or.inl ne_b40_b42)
      have E_b40 := E_b40.wr W54
      have hk := Nat.le_trans hk (Keep.of_wr W54).1
      have Z55 : n0 ≤ h54.size := Nat.le_trans Z51 (Keep.of_wr W54).1
      have KP := KP.wr W54 (Or.inr sz_b42)
      have V_b42 := Arv.set Ar53 q53 S53 M53 H53 G53 (fits_nar_char _) W54 2 rfl (Nat.le_of_ble_eq_true rfl)
      have V_b42 : Arv Z h54 b42 k42 .char (3 : Int32) [(.int c0), (.int c1), (.int c2)] (.int 0) := by have q := V_b42; simp only [nc2, List.set] at q; exact q
      have N54 := Fr.snoc X54 N50 g_b42
      obtain ⟨_, _, ⟨T56, L56, k56, n56⟩, -, X56, ⟨Lc56, hQ56, l56, y56, z56⟩, st56⟩ := X54.specialBack hx (y := (⟨"java/lang/String", "<init>", "([C)V"⟩ : MethodName)) rfl hown (mvT hZ (hw _ (own_m (i := 55) rfl))) (mvT hZ (hw _ (own_m (i := 56) rfl))) (mvT hZ (hw _ (own_m (i := 57) rfl))) (by decide) (StrChars.Road.backV (W := 1) hZ (fun d hd => hw d ((by decide +kernel : ∀ d ∈ StrChars.Road.words, d ∈ tables_1) d hd)) (kI := 4) (hw _ (own_m (i := 2) rfl)) (cs := ([c0, c1, c2] : List Int32)) (bs := List.map (fun c => c.toInt8.toInt32) ([c0, c1, c2] : List Int32)) (n := 3) (n0 := n0) g_b40 Z55 E_b40 F_value_b40 F_coder_b40 V_b42 (S0.ext O.2) hcz rfl rfl (by decide) (by decide) (fun c hc => okA c (List.mem_of_mem_take (i := 3) hc)) rfl (by decide) (by decide)) (g := (mkF m 95 #[.val (.ref ar), .val (.int n1)] [(.ref b42), (.ref b40), (.ref b40)])) rfl (by rw [hml]; rfl) (Steps.refl _) (a := b40) (argsL := [(.ref b42)]) (rest := [(.ref b40)]) (lenOf own_pd4 rfl) rfl (by show 2 * 0 + _ ≤ _; exact Nat.le_of_eq rfl) (hb hby own_d9_95) (fun _ _ => ⟨rfl, e54, (by decide : 2 + 1 ≤ _), (by decide : 7 + 3 ≤ _)⟩)
      dsimp only [Pt.U, Pt.locs, Pt.cells, Pt.slots] at X56 l56 y56 z56 st56 hQ56
      subst l56 y56 z56
      obtain ⟨rfl, N56q, K56, Ee56, Fc56, b56, kb56, g156, sz56, nx56, Fv56, VB56⟩ := hQ56
      have N56 := Fr.app N54 N56q
      have O := O.keep K56 (allS g_b40 all0)
      have E_b40 := E_b40.keep K56
      have V_b42 := V_b42.keep K56 (ninS (Ne.symm ne_b40_b42) nin0)
      have hk := Nat.le_trans hk K56.1
      have Z57 := Nat.le_trans Z55 K56.1
      have KP := KP.trans K56 (allS (Or.inr sz_b40) all0)
      obtain ⟨fs, hr, hrun, hended, hRW⟩ := X56.leaveW hS hk (v := some (.ref b40)) (fun h => by rw [Bd.returns] at h; cases h)
      refine ⟨_, _, pre38 _ ?_, hrun, hended, _, _, rfl, ?_, hRW.1, hRW.2.1, hRW.2.2.1, hRW.2.2.2.mono (by decide) (by decide)⟩
      · refine XS.icmpNo X0.here hx rfl (hb hby own_d9_67) rfl (teq hc39).2 ?_
        show Steps p.tables e below (s₁.setTop (mkF m 70 #[.val (.ref ar), .val (.int n1)] [])) _
        refine st40 _ ?_
        show Steps p.tables e below (T40.setTop (mkF m 73 #[.val (.ref ar), .val (.int n1)] [(.ref b40)])) _
        refine XS.dup X40.here hx rfl (hb hby own_d9_73) rfl rfl ?_
        show Steps p.tables e below (T40.setTop (mkF m 74 #[.val (.ref ar), .val (.int n1)] [(.ref b40), (.ref b40)])) _
        refine XS.iconst X40.here hx rfl (hb hby own_d9_74) ?_
        show Steps p.tables e below (T40.setTop (mkF m 75 #[.val (.ref ar), .val (.int n1)] [(.int 3), (.ref b40), (.ref b40)])) _
        refine st42 _ ?_
        show Steps p.tables e below (T42.setTop (mkF m 77 #[.val (.ref ar), .val (.int n1)] [(.ref b42), (.ref b40), (.ref b40)])) _
        refine XS.dup X42.here hx rfl (hb hby own_d9_77) rfl rfl ?_
        show Steps p.tables e below (T42.setTop (mkF m 78 #[.val (.ref ar), .val (.int n1)] [(.ref b42), (.ref b42), (.ref b40), (.ref b40)])) _
        refine XS.iconst X42.here hx rfl (hb hby own_d9_78) ?_
        show Steps p.tables e below (T42.setTop (mkF m 79 #[.val (.ref ar), .val (.int n1)] [(.int 0), (.ref b42), (.ref b42), (.ref b40), (.ref b40)])) _
        refine XS.aloadN X42.here hx rfl (hb hby own_d9_79) rfl rfl ?_
        show Steps p.tables e below (T42.setTop (mkF m 80 #[.val (.ref ar), .val (.int n1)] [(.ref ar), (.int 0), (.ref b42), (.ref b42), (.ref b40), (.ref b40)])) _
        refine XS.iconst X42.here hx rfl (hb hby own_d9_80) ?_
        show Steps p.tables e below (T42.setTop (mkF m 81 #[.val (.ref ar), .val (.int n1)] [(.int 0), (.ref ar), (.int 0), (.ref b42), (.ref b42), (.ref b40), (.ref b40)])) _
        refine X42.caload hx (j := (0 : Int32)) (v := (.int c0)) (by rw [e42]; exact Ar44.1) (State.isArrayOf_alike hZ.alike Ar44.2.1) Ar44.2.2 hin44 (H44.at hin44 rfl) (g := (mkF m 81 #[.val (.ref ar), .val (.int n1)] [(.int 0), (.ref ar), (.int 0), (.ref b42), (.ref b42), (.ref b40), (.ref b40)])) rfl rfl (hb hby own_d9_81) _ ?_
        show Steps p.tables e below (T42.setTop (mkF m 82 #[.val (.ref ar), .val (.int n1)] [(.int c0), (.int 0), (.ref b42), (.ref b42), (.ref b40), (.ref b40)])) _
        refine st46 _ ?_
        show Steps p.tables e below (T46.setTop (mkF m 83 #[.val (.ref ar), .val (.int n1)] [(.ref b42), (.ref b40), (.ref b40)])) _
        refine XS.dup X46.here hx rfl (hb hby own_d9_83) rfl rfl ?_
        show Steps p.tables e below (T46.setTop (mkF m 84 #[.val (.ref ar), .val (.int n1)] [(.ref b42), (.ref b42), (.ref b40), (.ref b40)])) _
        refine XS.iconst X46.here hx rfl (hb hby own_d9_84) ?_
        show Steps p.tables e below (T46.setTop (mkF m 85 #[.val (.ref ar), .val (.int n1)] [(.int 1), (.ref b42), (.ref b42), (.ref b40), (.ref b40)])) _
        refine XS.aloadN X46.here hx rfl (hb hby own_d9_85) rfl rfl ?_
        show Steps p.tables e below (T46.setTop (mkF m 86 #[.val (.ref ar), .val (.int n1)] [(.ref ar), (.int 1), (.ref b42), (.ref b42), (.ref b40), (.ref b40)])) _
        refine XS.iconst X46.here hx rfl (hb hby own_d9_86) ?_
        show Steps p.tables e below (T46.setTop (mkF m 87 #[.val (.ref ar), .val (.int n1)] [(.int 1), (.ref ar), (.int 1), (.ref b42), (.ref b42), (.ref b40), (.ref b40)])) _
        refine X46.caload hx (j := (1 : Int32)) (v := (.int c1)) (by rw [e46]; exact Ar48.1) (State.isArrayOf_alike hZ.alike Ar48.2.1) Ar48.2.2 hin48 (H48.at hin48 rfl) (g := (mkF m 87 #[.val (.ref ar), .val (.int n1)] [(.int 1), (.ref ar), (.int 1), (.ref b42), (.ref b42), (.ref b40), (.ref b40)])) rfl rfl (hb hby own_d9_87) _ ?_
        show Steps p.tables e below (T46.setTop (mkF m 88 #[.val (.ref ar), .val (.int n1)] [(.int c1), (.int 1), (.ref b42), (.ref b42), (.ref b40), (.ref b40)])) _
        refine st50 _ ?_
        show Steps p.tables e below (T50.setTop (mkF m 89 #[.val (.ref ar), .val (.int n1)] [(.ref b42), (.ref b40), (.ref b40)])) _
        refine XS.dup X50.here hx rfl (hb hby own_d9_89) rfl rfl ?_
        show Steps p.tables e below (T50.setTop (mkF m 90 #[.val (.ref ar), .val (.int n1)] [(.ref b42), (.ref b42), (.ref b40), (.ref b40)])) _
        refine XS.iconst X50.here hx rfl (hb hby own_d9_90) ?_
        show Steps p.tables e below (T50.setTop (mkF m 91 #[.val (.ref ar), .val (.int n1)] [(.int 2), (.ref b42), (.ref b42), (.ref b40), (.ref b40)])) _
        refine XS.aloadN X50.here hx rfl (hb hby own_d9_91) rfl rfl ?_
        show Steps p.tables e below (T50.setTop (mkF m 92 #[.val (.ref ar), .val (.int n1)] [(.ref ar), (.int 2), (.ref b42), (.ref b42), (.ref b40), (.ref b40)])) _
        refine XS.iconst X50.here hx rfl (hb hby own_d9_92) ?_
        show Steps p.tables e below (T50.setTop (mkF m 93 #[.val (.ref ar), .val (.int n1)] [(.int 2), (.ref ar), (.int 2), (.ref b42), (.ref b42), (.ref b40), (.ref b40)])) _
        refine X50.caload hx (j := (2 : Int32)) (v := (.int c2)) (by rw [e50]; exact Ar52.1) (State.isArrayOf_alike hZ.alike Ar52.2.1) Ar52.2.2 hin52 (H52.at hin52 rfl) (g := (mkF m 93 #[.val (.ref ar), .val (.int n1)] [(.int 2), (.ref ar), (.int 2), (.ref b42), (.ref b42), (.ref b40), (.ref b40)])) rfl rfl (hb hby own_d9_93) _ ?_
        show Steps p.tables e below (T50.setTop (mkF m 94 #[.val (.ref ar), .val (.int n1)] [(.int c2), (.int 2), (.ref b42), (.ref b42), (.ref b40), (.ref b40)])) _
        refine st54 _ ?_
        show Steps p.tables e below (T54.setTop (mkF m 95 #[.val (.ref ar), .val (.int n1)] [(.ref b42), (.ref b40), (.ref b40)])) _
        refine st56.trans ?_
        show Steps p.tables e below (T56.setTop (mkF m 98 #[.val (.ref ar), .val (.int n1)] [(.ref b40)])) _
        exact retOut X56 hx (t := (.object "java/lang/String")) Bd.returns rfl (Or.inr (Or.inr (Or.inr (Or.inr ⟨rfl, rfl, rfl⟩)))) (hb hby own_d9_98) hr
      have hnk : nn = 3 := own_nk hnn hc39 hn13 (by decide)
      · show own_Q_own_prefix Z ar n1 Ts cz ka AA nn h0 n0 _ T56.heap _
        subst hnk
        exact ⟨b40, b56, kb56, rfl, N56, KP, Ee56, Fc56, Fv56, by rw [eA]; exact VB56⟩
  have pre58 : ∀ t, Steps p.tables e below (s₁.setTop (mkF m 101 #[.val (.ref ar), .val (.int n1)] [(.int 4), (.int n1)])) t → Steps p.tables e below (s₁.setTop (entryFrame m #[(.ref ar), (.int n1)] 2)) t := fun t k => pre38 t (by
    refine XS.icmpYes X0.here hx rfl (pc0 := 67) (pc' := 99) rfl (hb hby own_d9_67) rfl (feq hc39).2 (by decide) (by decide) ?_
    show Steps p.tables e below (s₁.setTop (mkF m 99 #[.val (.ref ar), .val (.int n1)] [])) _
    refine XS.iloadN X0.here hx rfl (hb hby own_d9_99) rfl ?_
    show Steps p.tables e below (s₁.setTop (mkF m 100 #[.val (.ref ar), .val (.int n1)] [(.int n1)])) _
    refine XS.iconst X0.here hx rfl (hb hby own_d9_100) ?_
    show Steps p.tables e below (s₁.setTop (mkF m 101 #[.val (.ref ar), .val (.int n1)] [(.int 4), (.int n1)])) _
    exact k)
  by_cases hc59 : n1 = (4 : Int32)
  · skip
    as_aux_lemma =>
      obtain ⟨T60, h60, X60, e60, E60, A60, D60, U60, st60⟩ := newO X0 hx hZ hown (hw _ (own_m (i := 54) rfl)) (hw _ (own_m (i := 2) rfl)) (hw _ (own_m (i := 1) rfl)) e0 (g := (mkF m 104 #[.val (.ref ar), .val (.int n1)] [])) rfl (hb hby own_d9_104) (by decide) (by decide)
      obtain ⟨b60, g60⟩ : ∃ z, z = h0.size := ⟨_, rfl⟩
      rw [← g60] at A60 D60 U60 st60
      have g_b60 : n0 ≤ b60 := Nat.le_trans Z0 (Nat.le_of_eq g60.symm)
      have sz_b60 : h0.size ≤ b60 := Nat.le_trans KP.1 (Nat.le_of_eq g60.symm)
      have ne_ar_b60 : ar ≠ b60 := Nat.ne_of_lt (Nat.lt_of_lt_of_le Va.lt (Nat.le_of_eq g60.symm))
      have O := O.ext E60
      have Va := Va.ext E60
      have hk := Nat.le_trans hk E60.1
      have Z61 : n0 ≤ h60.size := Nat.le_trans Z0 E60.1
      have KP := KP.ext E60
      have F_value_b60 : Fld Z h60 b60 "java/lang/String" "value" "[B" .null := D60 (Or.inr (hw _ (own_m (i := 4) rfl))) (ty := (.array .byte)) (by decide)
      have F_coder_b60 : Fld Z h60 b60 "java/lang/String" "coder" "B" (.int 0) := D60 (Or.inr (hw _ (own_m (i := 5) rfl))) (ty := .byte) (by decide)
      have E_b60 := A60
      obtain ⟨T62, h62, k62, X62, e62, E62, A62, st62⟩ := newP X60 hx hZ (hw _ (own_m (i := 24) rfl)) e60 (g := (mkF m 109 #[.val (.ref ar), .val (.int n1)] [(.int 4), (.ref b60), (.ref b60)])) rfl (hb hby own_d9_109) rfl (by decide) (cap := 4) (by decide) (by decide) (by decide) (by decide)
      obtain ⟨b62, g62⟩ : ∃ z, z = h60.size := ⟨_, rfl⟩
      rw [← g62] at A62 st62
      have g_b62 : n0 ≤ b62 := Nat.le_trans Z61 (Nat.le_of_eq g62.symm)
      have sz_b62 : h0.size ≤ b62 := Nat.le_trans KP.1 (Nat.le_of_eq g62.symm)
      have ne_ar_b62 : ar ≠ b62 := Nat.ne_of_lt (Nat.lt_of_lt_of_le Va.lt (Nat.le_of_eq g62.symm))
      have ne_b60_b62 : b60 ≠ b62 := Nat.ne_of_lt (Nat.lt_of_lt_of_le F_value_b60.lt (Nat.le_of_eq g62.symm))
      have O := O.ext E62
      have Va := Va.ext E62
      have F_value_b60 := F_value_b60.ext E62
      have F_coder_b60 := F_coder_b60.ext E62
      have E_b60 := E_b60.ext E62
      have hk := Nat.le_trans hk E62.1
      have Z63 : n0 ≤ h62.size := Nat.le_trans Z61 E62.1
      have KP := KP.ext E62
      have V_b62 : Arv Z h62 b62 k62 .char (4 : Int32) [(.int 0), (.int 0), (.int 0), (.int 0)] (.int 0) := (Arv.new A62 (by decide)).pad (pad_rep [] (.int 0) 4)
      obtain ⟨cl64, Ar64, q64, S64, M64, H64, G64⟩ := id Va
      have hin64 : ¬ ((0 : Int32) < 0 ∨ cl64.slots.size ≤ ((0 : Int32)).toNatClampNeg) := inb_of S64 ⟨by decide, by decide⟩
      obtain ⟨cl65, Ar65, q65, S65, M65, H65, G65⟩ := id V_b62
      have hin65 : ¬ ((0 : Int32) < 0 ∨ cl65.slots.size ≤ ((0 : Int32)).toNatClampNeg) := inb_of S65 ⟨by decide, by decide⟩
      obtain ⟨T66, h66, X66, e66, W66, st66⟩ := stC X62 hx hZ e62 Ar65 (j := (0 : Int32)) hin65 (g := (mkF m 116 #[.val (.ref ar), .val (.int n1)] [(.int c0), (.int 0), (.ref b62), (.ref b62), (.ref b60), (.ref b60)])) rfl rfl (hb hby own_d9_116)
      have O := O.wr W66 g_b62
      have Va := Va.other W66 ne_ar_b62
      have F_value_b60 := F_value_b60.other W66 (Or.inl ne_b60_b62)
      have F_coder_b60 := F_coder_b60.other W66 (Or.inl ne_b60_b62)
      have E_b60 := E_b60.wr W66
      have hk := Nat.le_trans hk (Keep.of_wr W66).1
      have Z67 : n0 ≤ h66.size := Nat.le_trans Z63 (Keep.of_wr W66).1
      have KP := KP.wr W66 (Or.inr sz_b62)
      have V_b62 := Arv.set Ar65 q65 S65 M65 H65 G65 (fits_nar_char _) W66 0 rfl (Nat.le_of_ble_eq_true rfl)
      have V_b62 : Arv Z h66 b62 k62 .char (4 : Int32) [(.int c0), (.int 0), (.int 0), (.int 0)] (.int 0) := by have q := V_b62; simp only [nc0, List.set] at q; exact q
      have N66 := Fr.snoc X66 N0 g_b62
      obtain ⟨cl68, Ar68, q68, S68, M68, H68, G68⟩ := id Va
      have hin68 : ¬ ((1 : Int32) < 0 ∨ cl68.slots.size ≤ ((1 : Int32)).toNatClampNeg) := inb_of S68 ⟨by decide, by decide⟩
      obtain ⟨cl69, Ar69, q69, S69, M69, H69, G69⟩ := id V_b62
      have hin69 : ¬ ((1 : Int32) < 0 ∨ cl69.slots.size ≤ ((1 : Int32)).toNatClampNeg) := inb_of S69 ⟨by decide, by decide⟩
      obtain ⟨T70, h70, X70, e70, W70, st70⟩ := stC X66 hx hZ e66 Ar69 (j := (1 : Int32)) hin69 (g := (mkF m 122 #[.val (.ref ar), .val (.int n1)] [(.int c1), (.int 1), (.ref b62), (.ref b62), (.ref b60), (.ref b60)])) rfl rfl (hb hby own_d9_122)
      have O := O.wr W70 g_b62
      have Va := Va.other W70 ne_ar_b62
      have F_value_b60 := F_value_b60.other W70 (Or.inl ne_b60_b62)
      have F_coder_b60 := F_coder_b60.other W70 (Or.inl ne_b60_b62)
      have E_b60 := E_b60.wr W70
      have hk := Nat.le_trans hk (Keep.of_wr W70).1
      have Z71 : n0 ≤ h70.size := Nat.le_trans Z67 (Keep.of_wr W70).1
      have KP := KP.wr W70 (Or.inr sz_b62)
      have V_b62 := Arv.set Ar69 q69 S69 M69 H69 G69 (fits_nar_char _) W70 1 rfl (Nat.le_of_ble_eq_true rfl)
      have V_b62 : Arv Z h70 b62 k62 .char (4 : Int32) [(.int c0), (.int c1), (.int 0), (.int 0)] (.int 0) := by have q := V_b62; simp only [nc1, List.set] at q; exact q
      have N70 := Fr.snoc X70 N66 g_b62
      obtain ⟨cl72, Ar72, q72, S72, M72, H72, G72⟩ := id Va
      have hin72 : ¬ ((2 : Int32) < 0 ∨ cl72.slots.size ≤ ((2 : Int32)).toNatClampNeg) := inb_of S72 ⟨by decide, by decide⟩
      obtain ⟨cl73, Ar73, q73, S73, M73, H73, G73⟩ := id V_b62
      have hin73 : ¬ ((2 : Int32) < 0 ∨ cl73.slots.size ≤ ((2 : Int32)).toNatClampNeg) := inb_of S73 ⟨by decide, by decide⟩
      obtain ⟨T74, h74, X74, e74, W74, st74⟩ := stC X70 hx hZ e70 Ar73 (j := (2 : Int32)) hin73 (g := (mkF m 128 #[.val (.ref ar), .val (.int n1)] [(.int c2), (.int 2), (.ref b62), (.ref b62), (.ref b60), (.ref b60)])) rfl rfl (hb hby own_d9_128)
      have O := O.wr W74 g_b62
      have Va := Va.other W74 ne_ar_b62
      have F_value_b60 := F_value_b60.other W74 (Or.inl ne_b60_b62)
      have F_coder_b60 := F_coder_b60.other W74 (Or.inl ne_b60_b62)
      have E_b60 := E_b60.wr W74
      have hk := Nat.le_trans hk (Keep.of_wr W74).1
      have Z75 : n0 ≤ h74.size := Nat.le_trans Z71 (Keep.of_wr W74).1
      have KP := KP.wr W74 (Or.inr sz_b62)
      have V_b62 := Arv.set Ar73 q73 S73 M73 H73 G73 (fits_nar_char _) W74 2 rfl (Nat.le_of_ble_eq_true rfl)
      have V_b62 : Arv Z h74 b62 k62 .char (4 : Int32) [(.int c0), (.int c1), (.int c2), (.int 0)] (.int 0) := by have q := V_b62; simp only [nc2, List.set] at q; exact q
      have N74 := Fr.snoc X74 N70 g_b62
      obtain ⟨cl76, Ar76, q76, S76, M76, H76, G76⟩ := id Va
      have hin76 : ¬ ((3 : Int32) < 0 ∨ cl76.slots.size ≤ ((3 : Int32)).toNatClampNeg) := inb_of S76 ⟨by decide, by decide⟩
      obtain ⟨cl77, Ar77, q77, S77, M77, H77, G77⟩ := id V_b62
      have hin77 : ¬ ((3 : Int32) < 0 ∨ cl77.slots.size ≤ ((3 : Int32)).toNatClampNeg) := inb_of S77 ⟨by decide, by decide⟩
      obtain ⟨T78, h78, X78, e78, W78, st78⟩ := stC X74 hx hZ e74 Ar77 (j := (3 : Int32)) hin77 (g := (mkF m 134 #[.val (.ref ar), .val (.int n1)] [(.int c3), (.int 3), (.ref b62), (.ref b62), (.ref b60), (.ref b60)])) rfl rfl (hb hby own_d9_134)
      have O := O.wr W78 g_b62
      have Va := Va.other W78 ne_ar_b62
      have F_value_b60 := F_value_b60.other W78 (Or.inl ne_b60_b62)
      have F_coder_b60 := F_coder_b60.other W78 (Or.inl ne_b60_b62)
      have E_b60 := E_b60.wr W78
      have hk := Nat.le_trans hk (Keep.of_wr W78).1
      have Z79 : n0 ≤ h78.size := Nat.le_trans Z75 (Keep.of_wr W78).1
      have KP := KP.wr W78 (Or.inr sz_b62)
      have V_b62 := Arv.set Ar77 q77 S77 M77 H77 G77 (fits_nar_char _) W78 3 rfl (Nat.le_of_ble_eq_true rfl)
      have V_b62 : Arv Z h78 b62 k62 .char (4 : Int32) [(.int c0), (.int c1), (.int c2), (.int c3)] (.int 0) := by have q := V_b62; simp only [nc3, List.set] at q; exact q
      have N78 := Fr.snoc X78 N74 g_b62
      obtain ⟨_, _, ⟨T80, L80, k80, n80⟩, -, X80, ⟨Lc80, hQ80, l80, y80, z80⟩, st80⟩ := X78.specialBack hx (y := (⟨"java/lang/String", "<init>", "([C)V"⟩ : MethodName)) rfl hown (mvT hZ (hw _ (own_m (i := 55) rfl))) (mvT hZ (hw _ (own_m (i := 56) rfl))) (mvT hZ (hw _ (own_m (i := 57) rfl))) (by decide) (StrChars.Road.backV (W := 1) hZ (fun d hd => hw d ((by decide +kernel : ∀ d ∈ StrChars.Road.words, d ∈ tables_1) d hd)) (kI := 4) (hw _ (own_m (i := 2) rfl)) (cs := ([c0, c1, c2, c3] : List Int32)) (bs := List.map (fun c => c.toInt8.toInt32) ([c0, c1, c2, c3] : List Int32)) (n := 4) (n0 := n0) g_b60 Z79 E_b60 F_value_b60 F_coder_b60 V_b62 (S0.ext O.2) hcz rfl rfl (by decide) (by decide) (fun c hc => okA c (List.mem_of_mem_take (i := 4) hc)) rfl (by decide) (by decide)) (g := (mkF m 135 #[.val (.ref ar), .val (.int n1)] [(.ref b62), (.ref b60), (.ref b60)])) rfl (by rw [hml]; rfl) (Steps.refl _) (a := b60) (argsL := [(.ref b62)]) (rest := [(.ref b60)]) (lenOf own_pd4 rfl) rfl (by show 2 * 0 + _ ≤ _; exact Nat.le_of_eq rfl) (hb hby own_d9_135) (fun _ _ => ⟨rfl, e78, (by decide : 2 + 1 ≤ _), (by decide : 8 + 4 ≤ _)⟩)
      dsimp only [Pt.U, Pt.locs, Pt.cells, Pt.slots] at X80 l80 y80 z80 st80 hQ80
      subst l80 y80 z80
      obtain ⟨rfl, N80q, K80, Ee80, Fc80, b80, kb80, g180, sz80, nx80, Fv80, VB80⟩ := hQ80
      have N80 := Fr.app N78 N80q
      have O := O.keep K80 (allS g_b60 all0)
      have E_b60 := E_b60.keep K80
      have V_b62 := V_b62.keep K80 (ninS (Ne.symm ne_b60_b62) nin0)
      have hk := Nat.le_trans hk K80.1
      have Z81 := Nat.le_trans Z79 K80.1
      have KP := KP.trans K80 (allS (Or.inr sz_b60) all0)
      obtain ⟨fs, hr, hrun, hended, hRW⟩ := X80.leaveW hS hk (v := some (.ref b60)) (fun h => by rw [Bd.returns] at h; cases h)
      refine ⟨_, _, pre58 _ ?_, hrun, hended, _, _, rfl, ?_, hRW.1, hRW.2.1, hRW.2.2.1, hRW.2.2.2.mono (by decide) (by decide)⟩
      · refine XS.icmpNo X0.here hx rfl (hb hby own_d9_101) rfl (teq hc59).2 ?_
        show Steps p.tables e below (s₁.setTop (mkF m 104 #[.val (.ref ar), .val (.int n1)] [])) _
        refine st60 _ ?_
        show Steps p.tables e below (T60.setTop (mkF m 107 #[.val (.ref ar), .val (.int n1)] [(.ref b60)])) _
        refine XS.dup X60.here hx rfl (hb hby own_d9_107) rfl rfl ?_
        show Steps p.tables e below (T60.setTop (mkF m 108 #[.val (.ref ar), .val (.int n1)] [(.ref b60), (.ref b60)])) _
        refine XS.iconst X60.here hx rfl (hb hby own_d9_108) ?_
        show Steps p.tables e below (T60.setTop (mkF m 109 #[.val (.ref ar), .val (.int n1)] [(.int 4), (.ref b60), (.ref b60)])) _
        refine st62 _ ?_
        show Steps p.tables e below (T62.setTop (mkF m 111 #[.val (.ref ar), .val (.int n1)] [(.ref b62), (.ref b60), (.ref b60)])) _
        refine XS.dup X62.here hx rfl (hb hby own_d9_111) rfl rfl ?_
        show Steps p.tables e below (T62.setTop (mkF m 112 #[.val (.ref ar), .val (.int n1)] [(.ref b62), (.ref b62), (.ref b60), (.ref b60)])) _
        refine XS.iconst X62.here hx rfl (hb hby own_d9_112) ?_
        show Steps p.tables e below (T62.setTop (mkF m 113 #[.val (.ref ar), .val (.int n1)] [(.int 0), (.ref b62), (.ref b62), (.ref b60), (.ref b60)])) _
        refine XS.aloadN X62.here hx rfl (hb hby own_d9_113) rfl rfl ?_
        show Steps p.tables e below (T62.setTop (mkF m 114 #[.val (.ref ar), .val (.int n1)] [(.ref ar), (.int 0), (.ref b62), (.ref b62), (.ref b60), (.ref b60)])) _
        refine XS.iconst X62.here hx rfl (hb hby own_d9_114) ?_
        show Steps p.tables e below (T62.setTop (mkF m 115 #[.val (.ref ar), .val (.int n1)] [(.int 0), (.ref ar), (.int 0), (.ref b62), (.ref b62), (.ref b60), (.ref b60)])) _
        refine X62.caload hx (j := (0 : Int32)) (v := (.int c0)) (by rw [e62]; exact Ar64.1) (State.isArrayOf_alike hZ.alike Ar64.2.1) Ar64.2.2 hin64 (H64.at hin64 rfl) (g := (mkF m 115 #[.val (.ref ar), .val (.int n1)] [(.int 0), (.ref ar), (.int 0), (.ref b62), (.ref b62), (.ref b60), (.ref b60)])) rfl rfl (hb hby own_d9_115) _ ?_
        show Steps p.tables e below (T62.setTop (mkF m 116 #[.val (.ref ar), .val (.int n1)] [(.int c0), (.int 0), (.ref b62), (.ref b62), (.ref b60), (.ref b60)])) _
        refine st66 _ ?_
        show Steps p.tables e below (T66.setTop (mkF m 117 #[.val (.ref ar), .val (.int n1)] [(.ref b62), (.ref b60), (.ref b60)])) _
        refine XS.dup X66.here hx rfl (hb hby own_d9_117) rfl rfl ?_
        show Steps p.tables e below (T66.setTop (mkF m 118 #[.val (.ref ar), .val (.int n1)] [(.ref b62), (.ref b62), (.ref b60), (.ref b60)])) _
        refine XS.iconst X66.here hx rfl (hb hby own_d9_118) ?_
        show Steps p.tables e below (T66.setTop (mkF m 119 #[.val (.ref ar), .val (.int n1)] [(.int 1), (.ref b62), (.ref b62), (.ref b60), (.ref b60)])) _
        refine XS.aloadN X66.here hx rfl (hb hby own_d9_119) rfl rfl ?_
        show Steps p.tables e below (T66.setTop (mkF m 120 #[.val (.ref ar), .val (.int n1)] [(.ref ar), (.int 1), (.ref b62), (.ref b62), (.ref b60), (.ref b60)])) _
        refine XS.iconst X66.here hx rfl (hb hby own_d9_120) ?_
        show Steps p.tables e below (T66.setTop (mkF m 121 #[.val (.ref ar), .val (.int n1)] [(.int 1), (.ref ar), (.int 1), (.ref b62), (.ref b62), (.ref b60), (.ref b60)])) _
        refine X66.caload hx (j := (1 : Int32)) (v := (.int c1)) (by rw [e66]; exact Ar68.1) (State.isArrayOf_alike hZ.alike Ar68.2.1) Ar68.2.2 hin68 (H68.at hin68 rfl) (g := (mkF m 121 #[.val (.ref ar), .val (.int n1)] [(.int 1), (.ref ar), (.int 1), (.ref b62), (.ref b62), (.ref b60), (.ref b60)])) rfl rfl (hb hby own_d9_121) _ ?_
        show Steps p.tables e below (T66.setTop (mkF m 122 #[.val (.ref ar), .val (.int n1)] [(.int c1), (.int 1), (.ref b62), (.ref b62), (.ref b60), (.ref b60)])) _
        refine st70 _ ?_
        show Steps p.tables e below (T70.setTop (mkF m 123 #[.val (.ref ar), .val (.int n1)] [(.ref b62), (.ref b60), (.ref b60)])) _
        refine XS.dup X70.here hx rfl (hb hby own_d9_123) rfl rfl ?_
        show Steps p.tables e below (T70.setTop (mkF m 124 #[.val (.ref ar), .val (.int n1)] [(.ref b62), (.ref b62), (.ref b60), (.ref b60)])) _
        refine XS.iconst X70.here hx rfl (hb hby own_d9_124) ?_
        show Steps p.tables e below (T70.setTop (mkF m 125 #[.val (.ref ar), .val (.int n1)] [(.int 2), (.ref b62), (.ref b62), (.ref b60), (.ref b60)])) _
        refine XS.aloadN X70.here hx rfl (hb hby own_d9_125) rfl rfl ?_
        show Steps p.tables e below (T70.setTop (mkF m 126 #[.val (.ref ar), .val (.int n1)] [(.ref ar), (.int 2), (.ref b62), (.ref b62), (.ref b60), (.ref b60)])) _
        refine XS.iconst X70.here hx rfl (hb hby own_d9_126) ?_
        show Steps p.tables e below (T70.setTop (mkF m 127 #[.val (.ref ar), .val (.int n1)] [(.int 2), (.ref ar), (.int 2), (.ref b62), (.ref b62), (.ref b60), (.ref b60)])) _
        refine X70.caload hx (j := (2 : Int32)) (v := (.int c2)) (by rw [e70]; exact Ar72.1) (State.isArrayOf_alike hZ.alike Ar72.2.1) Ar72.2.2 hin72 (H72.at hin72 rfl) (g := (mkF m 127 #[.val (.ref ar), .val (.int n1)] [(.int 2), (.ref ar), (.int 2), (.ref b62), (.ref b62), (.ref b60), (.ref b60)])) rfl rfl (hb hby own_d9_127) _ ?_
        show Steps p.tables e below (T70.setTop (mkF m 128 #[.val (.ref ar), .val (.int n1)] [(.int c2), (.int 2), (.ref b62), (.ref b62), (.ref b60), (.ref b60)])) _
        refine st74 _ ?_
        show Steps p.tables e below (T74.setTop (mkF m 129 #[.val (.ref ar), .val (.int n1)] [(.ref b62), (.ref b60), (.ref b60)])) _
        refine XS.dup X74.here hx rfl (hb hby own_d9_129) rfl rfl ?_
        show Steps p.tables e below (T74.setTop (mkF m 130 #[.val (.ref ar), .val (.int n1)] [(.ref b62), (.ref b62), (.ref b60), (.ref b60)])) _
        refine XS.iconst X74.here hx rfl (hb hby own_d9_130) ?_
        show Steps p.tables e below (T74.setTop (mkF m 131 #[.val (.ref ar), .val (.int n1)] [(.int 3), (.ref b62), (.ref b62), (.ref b60), (.ref b60)])) _
        refine XS.aloadN X74.here hx rfl (hb hby own_d9_131) rfl rfl ?_
        show Steps p.tables e below (T74.setTop (mkF m 132 #[.val (.ref ar), .val (.int n1)] [(.ref ar), (.int 3), (.ref b62), (.ref b62), (.ref b60), (.ref b60)])) _
        refine XS.iconst X74.here hx rfl (hb hby own_d9_132) ?_
        show Steps p.tables e below (T74.setTop (mkF m 133 #[.val (.ref ar), .val (.int n1)] [(.int 3), (.ref ar), (.int 3), (.ref b62), (.ref b62), (.ref b60), (.ref b60)])) _
        refine X74.caload hx (j := (3 : Int32)) (v := (.int c3)) (by rw [e74]; exact Ar76.1) (State.isArrayOf_alike hZ.alike Ar76.2.1) Ar76.2.2 hin76 (H76.at hin76 rfl) (g := (mkF m 133 #[.val (.ref ar), .val (.int n1)] [(.int 3), (.ref ar), (.int 3), (.ref b62), (.ref b62), (.ref b60), (.ref b60)])) rfl rfl (hb hby own_d9_133) _ ?_
        show Steps p.tables e below (T74.setTop (mkF m 134 #[.val (.ref ar), .val (.int n1)] [(.int c3), (.int 3), (.ref b62), (.ref b62), (.ref b60), (.ref b60)])) _
        refine st78 _ ?_
        show Steps p.tables e below (T78.setTop (mkF m 135 #[.val (.ref ar), .val (.int n1)] [(.ref b62), (.ref b60), (.ref b60)])) _
        refine st80.trans ?_
        show Steps p.tables e below (T80.setTop (mkF m 138 #[.val (.ref ar), .val (.int n1)] [(.ref b60)])) _
        exact retOut X80 hx (t := (.object "java/lang/String")) Bd.returns rfl (Or.inr (Or.inr (Or.inr (Or.inr ⟨rfl, rfl, rfl⟩)))) (hb hby own_d9_138) hr
      have hnk : nn = 4 := own_nk hnn hc59 hn13 (by decide)
      · show own_Q_own_prefix Z ar n1 Ts cz ka AA nn h0 n0 _ T80.heap _
        subst hnk
        exact ⟨b60, b80, kb80, rfl, N80, KP, Ee80, Fc80, Fv80, by rw [eA]; exact VB80⟩
  have pre82 : ∀ t, Steps p.tables e below (s₁.setTop (mkF m 141 #[.val (.ref ar), .val (.int n1)] [(.int 5), (.int n1)])) t → Steps p.tables e below (s₁.setTop (entryFrame m #[(.ref ar), (.int n1)] 2)) t := fun t k => pre58 t (by
    refine XS.icmpYes X0.here hx rfl (pc0 := 101) (pc' := 139) rfl (hb hby own_d9_101) rfl (feq hc59).2 (by decide) (by decide) ?_
    show Steps p.tables e below (s₁.setTop (mkF m 139 #[.val (.ref ar), .val (.int n1)] [])) _
    refine XS.iloadN X0.here hx rfl (hb hby own_d9_139) rfl ?_
    show Steps p.tables e below (s₁.setTop (mkF m 140 #[.val (.ref ar), .val (.int n1)] [(.int n1)])) _
    refine XS.iconst X0.here hx rfl (hb hby own_d9_140) ?_
    show Steps p.tables e below (s₁.setTop (mkF m 141 #[.val (.ref ar), .val (.int n1)] [(.int 5), (.int n1)])) _
    exact k)
  by_cases hc83 : n1 = (5 : Int32)
  · skip
    as_aux_lemma =>
      obtain ⟨T84, h84, X84, e84, E84, A84, D84, U84, st84⟩ := newO X0 hx hZ hown (hw _ (own_m (i := 54) rfl)) (hw _ (own_m (i := 2) rfl)) (hw _ (own_m (i := 1) rfl)) e0 (g := (mkF m 144 #[.val (.ref ar), .val (.int n1)] [])) rfl (hb hby own_d9_144) (by decide) (by decide)
      obtain ⟨b84, g84⟩ : ∃ z, z = h0.size := ⟨_, rfl⟩
      rw [← g84] at A84 D84 U84 st84
      have g_b84 : n0 ≤ b84 := Nat.le_trans Z0 (Nat.le_of_eq g84.symm)
      have sz_b84 : h0.size ≤ b84 := Nat.le_trans KP.1 (Nat.le_of_eq g84.symm)
      have ne_ar_b84 : ar ≠ b84 := Nat.ne_of_lt (Nat.lt_of_lt_of_le Va.lt (Nat.le_of_eq g84.symm))
      have O := O.ext E84
      have Va := Va.ext E84
      have hk := Nat.le_trans hk E84.1
      have Z85 : n0 ≤ h84.size := Nat.le_trans Z0 E84.1
      have KP := KP.ext E84
      have F_value_b84 : Fld Z h84 b84 "java/lang/String" "value" "[B" .null := D84 (Or.inr (hw _ (own_m (i := 4) rfl))) (ty := (.array .byte)) (by decide)
      have F_coder_b84 : Fld Z h84 b84 "java/lang/String" "coder" "B" (.int 0) := D84 (Or.inr (hw _ (own_m (i := 5) rfl))) (ty := .byte) (by decide)
      have E_b84 := A84
      obtain ⟨T86, h86, k86, X86, e86, E86, A86, st86⟩ := newP X84 hx hZ (hw _ (own_m (i := 24) rfl)) e84 (g := (mkF m 149 #[.val (.ref ar), .val (.int n1)] [(.int 5), (.ref b84), (.ref b84)])) rfl (hb hby own_d9_149) rfl (by decide) (cap := 5) (by decide) (by decide) (by decide) (by decide)
      obtain ⟨b86, g86⟩ : ∃ z, z = h84.size := ⟨_, rfl⟩
      rw [← g86] at A86 st86
      have g_b86 : n0 ≤ b86 := Nat.le_trans Z85 (Nat.le_of_eq g86.symm)
      have sz_b86 : h0.size ≤ b86 := Nat.le_trans KP.1 (Nat.le_of_eq g86.symm)
      have ne_ar_b86 : ar ≠ b86 := Nat.ne_of_lt (Nat.lt_of_lt_of_le Va.lt (Nat.le_of_eq g86.symm))
      have ne_b84_b86 : b84 ≠ b86 := Nat.ne_of_lt (Nat.lt_of_lt_of_le F_value_b84.lt (Nat.le_of_eq g86.symm))
      have O := O.ext E86
      have Va := Va.ext E86
      have F_value_b84 := F_value_b84.ext E86
      have F_coder_b84 := F_coder_b84.ext E86
      have E_b84 := E_b84.ext E86
      have hk := Nat.le_trans hk E86.1
      have Z87 : n0 ≤ h86.size := Nat.le_trans Z85 E86.1
      have KP := KP.ext E86
      have V_b86 : Arv Z h86 b86 k86 .char (5 : Int32) [(.int 0), (.int 0), (.int 0), (.int 0), (.int 0)] (.int 0) := (Arv.new A86 (by decide)).pad (pad_rep [] (.int 0) 5)
      obtain ⟨cl88, Ar88, q88, S88, M88, H88, G88⟩ := id Va
      have hin88 : ¬ ((0 : Int32) < 0 ∨ cl88.slots.size ≤ ((0 : Int32)).toNatClampNeg) := inb_of S88 ⟨by decide, by decide⟩
      obtain ⟨cl89, Ar89, q89, S89, M89, H89, G89⟩ := id V_b86
      have hin89 : ¬ ((0 : Int32) < 0 ∨ cl89.slots.size ≤ ((0 : Int32)).toNatClampNeg) := inb_of S89 ⟨by decide, by decide⟩
      obtain ⟨T90, h90, X90, e90, W90, st90⟩ := stC X86 hx hZ e86 Ar89 (j := (0 : Int32)) hin89 (g := (mkF m 156 #[.val (.ref ar), .val (.int n1)] [(.int c0), (.int 0), (.ref b86), (.ref b86), (.ref b84), (.ref b84)])) rfl rfl (hb hby own_d9_156)
      have O := O.wr W90 g_b86
      have Va := Va.other W90 ne_ar_b86
      have F_value_b84 := F_value_b84.other W90 (Or.inl ne_b84_b86)
      have F_coder_b84 := F_coder_b84.other W90 (Or.inl ne_b84_b86)
      have E_b84 := E_b84.wr W90
      have hk := Nat.le_trans hk (Keep.of_wr W90).1
      have Z91 : n0 ≤ h90.size := Nat.le_trans Z87 (Keep.of_wr W90).1
      have KP := KP.wr W90 (Or.inr sz_b86)
      have V_b86 := Arv.set Ar89 q89 S89 M89 H89 G89 (fits_nar_char _) W90 0 rfl (Nat.le_of_ble_eq_true rfl)
      have V_b86 : Arv Z h90 b86 k86 .char (5 : Int32) [(.int c0), (.int 0), (.int 0), (.int 0), (.int 0)] (.int 0) := by have q := V_b86; simp only [nc0, List.set] at q; exact q
      have N90 := Fr.snoc X90 N0 g_b86
      obtain ⟨cl92, Ar92, q92, S92, M92, H92, G92⟩ := id Va
      have hin92 : ¬ ((1 : Int32) < 0 ∨ cl92.slots.size ≤ ((1 : Int32)).toNatClampNeg) := inb_of S92 ⟨by decide, by decide⟩
      obtain ⟨cl93, Ar93, q93, S93, M93, H93, G93⟩ := id V_b86
      have hin93 : ¬ ((1 : Int32) < 0 ∨ cl93.slots.size ≤ ((1 : Int32)).toNatClampNeg) := inb_of S93 ⟨by decide, by decide⟩
      obtain ⟨T94, h94, X94, e94, W94, st94⟩ := stC X90 hx hZ e90 Ar93 (j := (1 : Int32)) hin93 (g := (mkF m 162 #[.val (.ref ar), .val (.int n1)] [(.int c1), (.int 1), (.ref b86), (.ref b86), (.ref b84), (.ref b84)])) rfl rfl (hb hby own_d9_162)
      have O := O.wr W94 g_b86
      have Va := Va.other W94 ne_ar_b86
      have F_value_b84 := F_value_b84.other W94 (Or.inl ne_b84_b86)
      have F_coder_b84 := F_coder_b84.other W94 (Or.inl ne_b84_b86)
      have E_b84 := E_b84.wr W94
      have hk := Nat.le_trans hk (Keep.of_wr W94).1
      have Z95 : n0 ≤ h94.size := Nat.le_trans Z91 (Keep.of_wr W94).1
      have KP := KP.wr W94 (Or.inr sz_b86)
      have V_b86 := Arv.set Ar93 q93 S93 M93 H93 G93 (fits_nar_char _) W94 1 rfl (Nat.le_of_ble_eq_true rfl)
      have V_b86 : Arv Z h94 b86 k86 .char (5 : Int32) [(.int c0), (.int c1), (.int 0), (.int 0), (.int 0)] (.int 0) := by have q := V_b86; simp only [nc1, List.set] at q; exact q
      have N94 := Fr.snoc X94 N90 g_b86
      obtain ⟨cl96, Ar96, q96, S96, M96, H96, G96⟩ := id Va
      have hin96 : ¬ ((2 : Int32) < 0 ∨ cl96.slots.size ≤ ((2 : Int32)).toNatClampNeg) := inb_of S96 ⟨by decide, by decide⟩
      obtain ⟨cl97, Ar97, q97, S97, M97, H97, G97⟩ := id V_b86
      have hin97 : ¬ ((2 : Int32) < 0 ∨ cl97.slots.size ≤ ((2 : Int32)).toNatClampNeg) := inb_of S97 ⟨by decide, by decide⟩
      obtain ⟨T98, h98, X98, e98, W98, st98⟩ := stC X94 hx hZ e94 Ar97 (j := (2 : Int32)) hin97 (g := (mkF m 168 #[.val (.ref ar), .val (.int n1)] [(.int c2), (.int 2), (.ref b86), (.ref b86), (.ref b84), (.ref b84)])) rfl rfl (hb hby own_d9_168)
      have O := O.wr W98 g_b86
      have Va := Va.other W98 ne_ar_b86
      have F_value_b84 := F_value_b84.other W98 (Or.inl ne_b84_b86)
      have F_coder_b84 := F_coder_b84.other W98 (Or.inl ne_b84_b86)
      have E_b84 := E_b84.wr W98
      have hk := Nat.le_trans hk (Keep.of_wr W98).1
      have Z99 : n0 ≤ h98.size := Nat.le_trans Z95 (Keep.of_wr W98).1
      have KP := KP.wr W98 (Or.inr sz_b86)
      have V_b86 := Arv.set Ar97 q97 S97 M97 H97 G97 (fits_nar_char _) W98 2 rfl (Nat.le_of_ble_eq_true rfl)
      have V_b86 : Arv Z h98 b86 k86 .char (5 : Int32) [(.int c0), (.int c1), (.int c2), (.int 0), (.int 0)] (.int 0) := by have q := V_b86; simp only [nc2, List.set] at q; exact q
      have N98 := Fr.snoc X98 N94 g_b86
      obtain ⟨cl100, Ar100, q100, S100, M100, H100, G100⟩ := id Va
      have hin100 : ¬ ((3 : Int32) < 0 ∨ cl100.slots.size ≤ ((3 : Int32)).toNatClampNeg) := inb_of S100 ⟨by decide, by decide⟩
      obtain ⟨cl101, Ar101, q101, S101, M101, H101, G101⟩ := id V_b86
      have hin101 : ¬ ((3 : Int32) < 0 ∨ cl101.slots.size ≤ ((3 : Int32)).toNatClampNeg) := inb_of S101 ⟨by decide, by decide⟩
      obtain ⟨T102, h102, X102, e102, W102, st102⟩ := stC X98 hx hZ e98 Ar101 (j := (3 : Int32)) hin101 (g := (mkF m 174 #[.val (.ref ar), .val (.int n1)] [(.int c3), (.int 3), (.ref b86), (.ref b86), (.ref b84), (.ref b84)])) rfl rfl (hb hby own_d9_174)
      have O := O.wr W102 g_b86
      have Va := Va.other W102 ne_ar_b86
      have F_value_b84 := F_value_b84.other W102 (Or.inl ne_b84_b86)
      have F_coder_b84 := F_coder_b84.other W102 (Or.inl ne_b84_b86)
      have E_b84 := E_b84.wr W102
      have hk := Nat.le_trans hk (Keep.of_wr W102).1
      have Z103 : n0 ≤ h102.size := Nat.le_trans Z99 (Keep.of_wr W102).1
      have KP := KP.wr W102 (Or.inr sz_b86)
      have V_b86 := Arv.set Ar101 q101 S101 M101 H101 G101 (fits_nar_char _) W102 3 rfl (Nat.le_of_ble_eq_true rfl)
      have V_b86 : Arv Z h102 b86 k86 .char (5 : Int32) [(.int c0), (.int c1), (.int c2), (.int c3), (.int 0)] (.int 0) := by have q := V_b86; simp only [nc3, List.set] at q; exact q
      have N102 := Fr.snoc X102 N98 g_b86
      obtain ⟨cl104, Ar104, q104, S104, M104, H104, G104⟩ := id Va
      have hin104 : ¬ ((4 : Int32) < 0 ∨ cl104.slots.size ≤ ((4 : Int32)).toNatClampNeg) := inb_of S104 ⟨by decide, by decide⟩
      obtain ⟨cl105, Ar105, q105, S105, M105, H105, G105⟩ := id V_b86
      have hin105 : ¬ ((4 : Int32) < 0 ∨ cl105.slots.size ≤ ((4 : Int32)).toNatClampNeg) := inb_of S105 ⟨by decide, by decide⟩
      obtain ⟨T106, h106, X106, e106, W106, st106⟩ := stC X102 hx hZ e102 Ar105 (j := (4 : Int32)) hin105 (g := (mkF m 180 #[.val (.ref ar), .val (.int n1)] [(.int c4), (.int 4), (.ref b86), (.ref b86), (.ref b84), (.ref b84)])) rfl rfl (hb hby own_d9_180)
      have O := O.wr W106 g_b86
      have Va := Va.other W106 ne_ar_b86
      have F_value_b84 := F_value_b84.other W106 (Or.inl ne_b84_b86)
      have F_coder_b84 := F_coder_b84.other W106 (Or.inl ne_b84_b86)
      have E_b84 := E_b84.wr W106
      have hk := Nat.le_trans hk (Keep.of_wr W106).1
      have Z107 : n0 ≤ h106.size := Nat.le_trans Z103 (Keep.of_wr W106).1
      have KP := KP.wr W106 (Or.inr sz_b86)
      have V_b86 := Arv.set Ar105 q105 S105 M105 H105 G105 (fits_nar_char _) W106 4 rfl (Nat.le_of_ble_eq_true rfl)
      have V_b86 : Arv Z h106 b86 k86 .char (5 : Int32) [(.int c0), (.int c1), (.int c2), (.int c3), (.int c4)] (.int 0) := by have q := V_b86; simp only [nc4, List.set] at q; exact q
      have N106 := Fr.snoc X106 N102 g_b86
      obtain ⟨_, _, ⟨T108, L108, k108, n108⟩, -, X108, ⟨Lc108, hQ108, l108, y108, z108⟩, st108⟩ := X106.specialBack hx (y := (⟨"java/lang/String", "<init>", "([C)V"⟩ : MethodName)) rfl hown (mvT hZ (hw _ (own_m (i := 55) rfl))) (mvT hZ (hw _ (own_m (i := 56) rfl))) (mvT hZ (hw _ (own_m (i := 57) rfl))) (by decide) (StrChars.Road.backV (W := 1) hZ (fun d hd => hw d ((by decide +kernel : ∀ d ∈ StrChars.Road.words, d ∈ tables_1) d hd)) (kI := 4) (hw _ (own_m (i := 2) rfl)) (cs := ([c0, c1, c2, c3, c4] : List Int32)) (bs := List.map (fun c => c.toInt8.toInt32) ([c0, c1, c2, c3, c4] : List Int32)) (n := 5) (n0 := n0) g_b84 Z107 E_b84 F_value_b84 F_coder_b84 V_b86 (S0.ext O.2) hcz rfl rfl (by decide) (by decide) (fun c hc => okA c (List.mem_of_mem_take (i := 5) hc)) rfl (by decide) (by decide)) (g := (mkF m 181 #[.val (.ref ar), .val (.int n1)] [(.ref b86), (.ref b84), (.ref b84)])) rfl (by rw [hml]; rfl) (Steps.refl _) (a := b84) (argsL := [(.ref b86)]) (rest := [(.ref b84)]) (lenOf own_pd4 rfl) rfl (by show 2 * 0 + _ ≤ _; exact Nat.le_of_eq rfl) (hb hby own_d9_181) (fun _ _ => ⟨rfl, e106, (by decide : 2 + 1 ≤ _), (by decide : 9 + 5 ≤ _)⟩)
      dsimp only [Pt.U, Pt.locs, Pt.cells, Pt.slots] at X108 l108 y108 z108 st108 hQ108
      subst l108 y108 z108
      obtain ⟨rfl, N108q, K108, Ee108, Fc108, b108, kb108, g1108, sz108, nx108, Fv108, VB108⟩ := hQ108
      have N108 := Fr.app N106 N108q
      have O := O.keep K108 (allS g_b84 all0)
      have E_b84 := E_b84.keep K108
      have V_b86 := V_b86.keep K108 (ninS (Ne.symm ne_b84_b86) nin0)
      have hk := Nat.le_trans hk K108.1
      have Z109 := Nat.le_trans Z107 K108.1
      have KP := KP.trans K108 (allS (Or.inr sz_b84) all0)
      obtain ⟨fs, hr, hrun, hended, hRW⟩ := X108.leaveW hS hk (v := some (.ref b84)) (fun h => by rw [Bd.returns] at h; cases h)
      refine ⟨_, _, pre82 _ ?_, hrun, hended, _, _, rfl, ?_, hRW.1, hRW.2.1, hRW.2.2.1, hRW.2.2.2.mono (by decide) (by decide)⟩
      · refine XS.icmpNo X0.here hx rfl (hb hby own_d9_141) rfl (teq hc83).2 ?_
        show Steps p.tables e below (s₁.setTop (mkF m 144 #[.val (.ref ar), .val (.int n1)] [])) _
        refine st84 _ ?_
        show Steps p.tables e below (T84.setTop (mkF m 147 #[.val (.ref ar), .val (.int n1)] [(.ref b84)])) _
        refine XS.dup X84.here hx rfl (hb hby own_d9_147) rfl rfl ?_
        show Steps p.tables e below (T84.setTop (mkF m 148 #[.val (.ref ar), .val (.int n1)] [(.ref b84), (.ref b84)])) _
        refine XS.iconst X84.here hx rfl (hb hby own_d9_148) ?_
        show Steps p.tables e below (T84.setTop (mkF m 149 #[.val (.ref ar), .val (.int n1)] [(.int 5), (.ref b84), (.ref b84)])) _
        refine st86 _ ?_
        show Steps p.tables e below (T86.setTop (mkF m 151 #[.val (.ref ar), .val (.int n1)] [(.ref b86), (.ref b84), (.ref b84)])) _
        refine XS.dup X86.here hx rfl (hb hby own_d9_151) rfl rfl ?_
        show Steps p.tables e below (T86.setTop (mkF m 152 #[.val (.ref ar), .val (.int n1)] [(.ref b86), (.ref b86), (.ref b84), (.ref b84)])) _
        refine XS.iconst X86.here hx rfl (hb hby own_d9_152) ?_
        show Steps p.tables e below (T86.setTop (mkF m 153 #[.val (.ref ar), .val (.int n1)] [(.int 0), (.ref b86), (.ref b86), (.ref b84), (.ref b84)])) _
        refine XS.aloadN X86.here hx rfl (hb hby own_d9_153) rfl rfl ?_
        show Steps p.tables e below (T86.setTop (mkF m 154 #[.val (.ref ar), .val (.int n1)] [(.ref ar), (.int 0), (.ref b86), (.ref b86), (.ref b84), (.ref b84)])) _
        refine XS.iconst X86.here hx rfl (hb hby own_d9_154) ?_
        show Steps p.tables e below (T86.setTop (mkF m 155 #[.val (.ref ar), .val (.int n1)] [(.int 0), (.ref ar), (.int 0), (.ref b86), (.ref b86), (.ref b84), (.ref b84)])) _
        refine X86.caload hx (j := (0 : Int32)) (v := (.int c0)) (by rw [e86]; exact Ar88.1) (State.isArrayOf_alike hZ.alike Ar88.2.1) Ar88.2.2 hin88 (H88.at hin88 rfl) (g := (mkF m 155 #[.val (.ref ar), .val (.int n1)] [(.int 0), (.ref ar), (.int 0), (.ref b86), (.ref b86), (.ref b84), (.ref b84)])) rfl rfl (hb hby own_d9_155) _ ?_
        show Steps p.tables e below (T86.setTop (mkF m 156 #[.val (.ref ar), .val (.int n1)] [(.int c0), (.int 0), (.ref b86), (.ref b86), (.ref b84), (.ref b84)])) _
        refine st90 _ ?_
        show Steps p.tables e below (T90.setTop (mkF m 157 #[.val (.ref ar), .val (.int n1)] [(.ref b86), (.ref b84), (.ref b84)])) _
        refine XS.dup X90.here hx rfl (hb hby own_d9_157) rfl rfl ?_
        show Steps p.tables e below (T90.setTop (mkF m 158 #[.val (.ref ar), .val (.int n1)] [(.ref b86), (.ref b86), (.ref b84), (.ref b84)])) _
        refine XS.iconst X90.here hx rfl (hb hby own_d9_158) ?_
        show Steps p.tables e below (T90.setTop (mkF m 159 #[.val (.ref ar), .val (.int n1)] [(.int 1), (.ref b86), (.ref b86), (.ref b84), (.ref b84)])) _
        refine XS.aloadN X90.here hx rfl (hb hby own_d9_159) rfl rfl ?_
        show Steps p.tables e below (T90.setTop (mkF m 160 #[.val (.ref ar), .val (.int n1)] [(.ref ar), (.int 1), (.ref b86), (.ref b86), (.ref b84), (.ref b84)])) _
        refine XS.iconst X90.here hx rfl (hb hby own_d9_160) ?_
        show Steps p.tables e below (T90.setTop (mkF m 161 #[.val (.ref ar), .val (.int n1)] [(.int 1), (.ref ar), (.int 1), (.ref b86), (.ref b86), (.ref b84), (.ref b84)])) _
        refine X90.caload hx (j := (1 : Int32)) (v := (.int c1)) (by rw [e90]; exact Ar92.1) (State.isArrayOf_alike hZ.alike Ar92.2.1) Ar92.2.2 hin92 (H92.at hin92 rfl) (g := (mkF m 161 #[.val (.ref ar), .val (.int n1)] [(.int 1), (.ref ar), (.int 1), (.ref b86), (.ref b86), (.ref b84), (.ref b84)])) rfl rfl (hb hby own_d9_161) _ ?_
        show Steps p.tables e below (T90.setTop (mkF m 162 #[.val (.ref ar), .val (.int n1)] [(.int c1), (.int 1), (.ref b86), (.ref b86), (.ref b84), (.ref b84)])) _
        refine st94 _ ?_
        show Steps p.tables e below (T94.setTop (mkF m 163 #[.val (.ref ar), .val (.int n1)] [(.ref b86), (.ref b84), (.ref b84)])) _
        refine XS.dup X94.here hx rfl (hb hby own_d9_163) rfl rfl ?_
        show Steps p.tables e below (T94.setTop (mkF m 164 #[.val (.ref ar), .val (.int n1)] [(.ref b86), (.ref b86), (.ref b84), (.ref b84)])) _
        refine XS.iconst X94.here hx rfl (hb hby own_d9_164) ?_
        show Steps p.tables e below (T94.setTop (mkF m 165 #[.val (.ref ar), .val (.int n1)] [(.int 2), (.ref b86), (.ref b86), (.ref b84), (.ref b84)])) _
        refine XS.aloadN X94.here hx rfl (hb hby own_d9_165) rfl rfl ?_
        show Steps p.tables e below (T94.setTop (mkF m 166 #[.val (.ref ar), .val (.int n1)] [(.ref ar), (.int 2), (.ref b86), (.ref b86), (.ref b84), (.ref b84)])) _
        refine XS.iconst X94.here hx rfl (hb hby own_d9_166) ?_
        show Steps p.tables e below (T94.setTop (mkF m 167 #[.val (.ref ar), .val (.int n1)] [(.int 2), (.ref ar), (.int 2), (.ref b86), (.ref b86), (.ref b84), (.ref b84)])) _
        refine X94.caload hx (j := (2 : Int32)) (v := (.int c2)) (by rw [e94]; exact Ar96.1) (State.isArrayOf_alike hZ.alike Ar96.2.1) Ar96.2.2 hin96 (H96.at hin96 rfl) (g := (mkF m 167 #[.val (.ref ar), .val (.int n1)] [(.int 2), (.ref ar), (.int 2), (.ref b86), (.ref b86), (.ref b84), (.ref b84)])) rfl rfl (hb hby own_d9_167) _ ?_
        show Steps p.tables e below (T94.setTop (mkF m 168 #[.val (.ref ar), .val (.int n1)] [(.int c2), (.int 2), (.ref b86), (.ref b86), (.ref b84), (.ref b84)])) _
        refine st98 _ ?_
        show Steps p.tables e below (T98.setTop (mkF m 169 #[.val (.ref ar), .val (.int n1)] [(.ref b86), (.ref b84), (.ref b84)])) _
        refine XS.dup X98.here hx rfl (hb hby own_d9_169) rfl rfl ?_
        show Steps p.tables e below (T98.setTop (mkF m 170 #[.val (.ref ar), .val (.int n1)] [(.ref b86), (.ref b86), (.ref b84), (.ref b84)])) _
        refine XS.iconst X98.here hx rfl (hb hby own_d9_170) ?_
        show Steps p.tables e below (T98.setTop (mkF m 171 #[.val (.ref ar), .val (.int n1)] [(.int 3), (.ref b86), (.ref b86), (.ref b84), (.ref b84)])) _
        refine XS.aloadN X98.here hx rfl (hb hby own_d9_171) rfl rfl ?_
        show Steps p.tables e below (T98.setTop (mkF m 172 #[.val (.ref ar), .val (.int n1)] [(.ref ar), (.int 3), (.ref b86), (.ref b86), (.ref b84), (.ref b84)])) _
        refine XS.iconst X98.here hx rfl (hb hby own_d9_172) ?_
        show Steps p.tables e below (T98.setTop (mkF m 173 #[.val (.ref ar), .val (.int n1)] [(.int 3), (.ref ar), (.int 3), (.ref b86), (.ref b86), (.ref b84), (.ref b84)])) _
        refine X98.caload hx (j := (3 : Int32)) (v := (.int c3)) (by rw [e98]; exact Ar100.1) (State.isArrayOf_alike hZ.alike Ar100.2.1) Ar100.2.2 hin100 (H100.at hin100 rfl) (g := (mkF m 173 #[.val (.ref ar), .val (.int n1)] [(.int 3), (.ref ar), (.int 3), (.ref b86), (.ref b86), (.ref b84), (.ref b84)])) rfl rfl (hb hby own_d9_173) _ ?_
        show Steps p.tables e below (T98.setTop (mkF m 174 #[.val (.ref ar), .val (.int n1)] [(.int c3), (.int 3), (.ref b86), (.ref b86), (.ref b84), (.ref b84)])) _
        refine st102 _ ?_
        show Steps p.tables e below (T102.setTop (mkF m 175 #[.val (.ref ar), .val (.int n1)] [(.ref b86), (.ref b84), (.ref b84)])) _
        refine XS.dup X102.here hx rfl (hb hby own_d9_175) rfl rfl ?_
        show Steps p.tables e below (T102.setTop (mkF m 176 #[.val (.ref ar), .val (.int n1)] [(.ref b86), (.ref b86), (.ref b84), (.ref b84)])) _
        refine XS.iconst X102.here hx rfl (hb hby own_d9_176) ?_
        show Steps p.tables e below (T102.setTop (mkF m 177 #[.val (.ref ar), .val (.int n1)] [(.int 4), (.ref b86), (.ref b86), (.ref b84), (.ref b84)])) _
        refine XS.aloadN X102.here hx rfl (hb hby own_d9_177) rfl rfl ?_
        show Steps p.tables e below (T102.setTop (mkF m 178 #[.val (.ref ar), .val (.int n1)] [(.ref ar), (.int 4), (.ref b86), (.ref b86), (.ref b84), (.ref b84)])) _
        refine XS.iconst X102.here hx rfl (hb hby own_d9_178) ?_
        show Steps p.tables e below (T102.setTop (mkF m 179 #[.val (.ref ar), .val (.int n1)] [(.int 4), (.ref ar), (.int 4), (.ref b86), (.ref b86), (.ref b84), (.ref b84)])) _
        refine X102.caload hx (j := (4 : Int32)) (v := (.int c4)) (by rw [e102]; exact Ar104.1) (State.isArrayOf_alike hZ.alike Ar104.2.1) Ar104.2.2 hin104 (H104.at hin104 rfl) (g := (mkF m 179 #[.val (.ref ar), .val (.int n1)] [(.int 4), (.ref ar), (.int 4), (.ref b86), (.ref b86), (.ref b84), (.ref b84)])) rfl rfl (hb hby own_d9_179) _ ?_
        show Steps p.tables e below (T102.setTop (mkF m 180 #[.val (.ref ar), .val (.int n1)] [(.int c4), (.int 4), (.ref b86), (.ref b86), (.ref b84), (.ref b84)])) _
        refine st106 _ ?_
        show Steps p.tables e below (T106.setTop (mkF m 181 #[.val (.ref ar), .val (.int n1)] [(.ref b86), (.ref b84), (.ref b84)])) _
        refine st108.trans ?_
        show Steps p.tables e below (T108.setTop (mkF m 184 #[.val (.ref ar), .val (.int n1)] [(.ref b84)])) _
        exact retOut X108 hx (t := (.object "java/lang/String")) Bd.returns rfl (Or.inr (Or.inr (Or.inr (Or.inr ⟨rfl, rfl, rfl⟩)))) (hb hby own_d9_184) hr
      have hnk : nn = 5 := own_nk hnn hc83 hn13 (by decide)
      · show own_Q_own_prefix Z ar n1 Ts cz ka AA nn h0 n0 _ T108.heap _
        subst hnk
        exact ⟨b84, b108, kb108, rfl, N108, KP, Ee108, Fc108, Fv108, by rw [eA]; exact VB108⟩
  have pre110 : ∀ t, Steps p.tables e below (s₁.setTop (mkF m 188 #[.val (.ref ar), .val (.int n1)] [(.int 6), (.int n1)])) t → Steps p.tables e below (s₁.setTop (entryFrame m #[(.ref ar), (.int n1)] 2)) t := fun t k => pre82 t (by
    refine XS.icmpYes X0.here hx rfl (pc0 := 141) (pc' := 185) rfl (hb hby own_d9_141) rfl (feq hc83).2 (by decide) (by decide) ?_
    show Steps p.tables e below (s₁.setTop (mkF m 185 #[.val (.ref ar), .val (.int n1)] [])) _
    refine XS.iloadN X0.here hx rfl (hb hby own_d9_185) rfl ?_
    show Steps p.tables e below (s₁.setTop (mkF m 186 #[.val (.ref ar), .val (.int n1)] [(.int n1)])) _
    refine XS.bipush X0.here hx rfl (hb hby own_d9_186) ?_
    show Steps p.tables e below (s₁.setTop (mkF m 188 #[.val (.ref ar), .val (.int n1)] [(.int 6), (.int n1)])) _
    exact k)
  by_cases hc111 : n1 = (6 : Int32)
  · skip
    as_aux_lemma =>
      obtain ⟨T112, h112, X112, e112, E112, A112, D112, U112, st112⟩ := newO X0 hx hZ hown (hw _ (own_m (i := 54) rfl)) (hw _ (own_m (i := 2) rfl)) (hw _ (own_m (i := 1) rfl)) e0 (g := (mkF m 191 #[.val (.ref ar), .val (.int n1)] [])) rfl (hb hby own_d9_191) (by decide) (by decide)
      obtain ⟨b112, g112⟩ : ∃ z, z = h0.size := ⟨_, rfl⟩
      rw [← g112] at A112 D112 U112 st112
      have g_b112 : n0 ≤ b112 := Nat.le_trans Z0 (Nat.le_of_eq g112.symm)
      have sz_b112 : h0.size ≤ b112 := Nat.le_trans KP.1 (Nat.le_of_eq g112.symm)
      have ne_ar_b112 : ar ≠ b112 := Nat.ne_of_lt (Nat.lt_of_lt_of_le Va.lt (Nat.le_of_eq g112.symm))
      have O := O.ext E112
      have Va := Va.ext E112
      have hk := Nat.le_trans hk E112.1
      have Z113 : n0 ≤ h112.size := Nat.le_trans Z0 E112.1
      have KP := KP.ext E112
      have F_value_b112 : Fld Z h112 b112 "java/lang/String" "value" "[B" .null := D112 (Or.inr (hw _ (own_m (i := 4) rfl))) (ty := (.array .byte)) (by decide)
      have F_coder_b112 : Fld Z h112 b112 "java/lang/String" "coder" "B" (.int 0) := D112 (Or.inr (hw _ (own_m (i := 5) rfl))) (ty := .byte) (by decide)
      have E_b112 := A112
      obtain ⟨T114, h114, k114, X114, e114, E114, A114, st114⟩ := newP X112 hx hZ (hw _ (own_m (i := 24) rfl)) e112 (g := (mkF m 197 #[.val (.ref ar), .val (.int n1)] [(.int 6), (.ref b112), (.ref b112)])) rfl (hb hby own_d9_197) rfl (by decide) (cap := 6) (by decide) (by decide) (by decide) (by decide)
      obtain ⟨b114, g114⟩ : ∃ z, z = h112.size := ⟨_, rfl⟩
      rw [← g114] at A114 st114
      have g_b114 : n0 ≤ b114 := Nat.le_trans Z113 (Nat.le_of_eq g114.symm)
      have sz_b114 : h0.size ≤ b114 := Nat.le_trans KP.1 (Nat.le_of_eq g114.symm)
      have ne_ar_b114 : ar ≠ b114 := Nat.ne_of_lt (Nat.lt_of_lt_of_le Va.lt (Nat.le_of_eq g114.symm))
      have ne_b112_b114 : b112 ≠ b114 := Nat.ne_of_lt (Nat.lt_of_lt_of_le F_value_b112.lt (Nat.le_of_eq g114.symm))
      have O := O.ext E114
      have Va := Va.ext E114
      have F_value_b112 := F_value_b112.ext E114
      have F_coder_b112 := F_coder_b112.ext E114
      have E_b112 := E_b112.ext E114
      have hk := Nat.le_trans hk E114.1
      have Z115 : n0 ≤ h114.size := Nat.le_trans Z113 E114.1
      have KP := KP.ext E114
      have V_b114 : Arv Z h114 b114 k114 .char (6 : Int32) [(.int 0), (.int 0), (.int 0), (.int 0), (.int 0), (.int 0)] (.int 0) := (Arv.new A114 (by decide)).pad (pad_rep [] (.int 0) 6)
      obtain ⟨cl116, Ar116, q116, S116, M116, H116, G116⟩ := id Va
      have hin116 : ¬ ((0 : Int32) < 0 ∨ cl116.slots.size ≤ ((0 : Int32)).toNatClampNeg) := inb_of S116 ⟨by decide, by decide⟩
      obtain ⟨cl117, Ar117, q117, S117, M117, H117, G117⟩ := id V_b114
      have hin117 : ¬ ((0 : Int32) < 0 ∨ cl117.slots.size ≤ ((0 : Int32)).toNatClampNeg) := inb_of S117 ⟨by decide, by decide⟩
      obtain ⟨T118, h118, X118, e118, W118, st118⟩ := stC X114 hx hZ e114 Ar117 (j := (0 : Int32)) hin117 (g := (mkF m 204 #[.val (.ref ar), .val (.int n1)] [(.int c0), (.int 0), (.ref b114), (.ref b114), (.ref b112), (.ref b112)])) rfl rfl (hb hby own_d9_204)
      have O := O.wr W118 g_b114
      have Va := Va.other W118 ne_ar_b114
      have F_value_b112 := F_value_b112.other W118 (Or.inl ne_b112_b114)
      have F_coder_b112 := F_coder_b112.other W118 (Or.inl ne_b112_b114)
      have E_b112 := E_b112.wr W118
      have hk := Nat.le_trans hk (Keep.of_wr W118).1
      have Z119 : n0 ≤ h118.size := Nat.le_trans Z115 (Keep.of_wr W118).1
      have KP := KP.wr W118 (Or.inr sz_b114)
      have V_b114 := Arv.set Ar117 q117 S117 M117 H117 G117 (fits_nar_char _) W118 0 rfl (Nat.le_of_ble_eq_true rfl)
      have V_b114 : Arv Z h118 b114 k114 .char (6 : Int32) [(.int c0), (.int 0), (.int 0), (.int 0), (.int 0), (.int 0)] (.int 0) := by have q := V_b114; simp only [nc0, List.set] at q; exact q
      have N118 := Fr.snoc X118 N0 g_b114
      obtain ⟨cl120, Ar120, q120, S120, M120, H120, G120⟩ := id Va
      have hin120 : ¬ ((1 : Int32) < 0 ∨ cl120.slots.size ≤ ((1 : Int32)).toNatClampNeg) := inb_of S120 ⟨by decide, by decide⟩
      obtain ⟨cl121, Ar121, q121, S121, M121, H121, G121⟩ := id V_b114
      have hin121 : ¬ ((1 : Int32) < 0 ∨ cl121.slots.size ≤ ((1 : Int32)).toNatClampNeg) := inb_of S121 ⟨by decide, by decide⟩
      obtain ⟨T122, h122, X122, e122, W122, st122⟩ := stC X118 hx hZ e118 Ar121 (j := (1 : Int32)) hin121 (g := (mkF m 210 #[.val (.ref ar), .val (.int n1)] [(.int c1), (.int 1), (.ref b114), (.ref b114), (.ref b112), (.ref b112)])) rfl rfl (hb hby own_d9_210)
      have O := O.wr W122 g_b114
      have Va := Va.other W122 ne_ar_b114
      have F_value_b112 := F_value_b112.other W122 (Or.inl ne_b112_b114)
      have F_coder_b112 := F_coder_b112.other W122 (Or.inl ne_b112_b114)
      have E_b112 := E_b112.wr W122
      have hk := Nat.le_trans hk (Keep.of_wr W122).1
      have Z123 : n0 ≤ h122.size := Nat.le_trans Z119 (Keep.of_wr W122).1
      have KP := KP.wr W122 (Or.inr sz_b114)
      have V_b114 := Arv.set Ar121 q121 S121 M121 H121 G121 (fits_nar_char _) W122 1 rfl (Nat.le_of_ble_eq_true rfl)
      have V_b114 : Arv Z h122 b114 k114 .char (6 : Int32) [(.int c0), (.int c1), (.int 0), (.int 0), (.int 0), (.int 0)] (.int 0) := by have q := V_b114; simp only [nc1, List.set] at q; exact q
      have N122 := Fr.snoc X122 N118 g_b114
      obtain ⟨cl124, Ar124, q124, S124, M124, H124, G124⟩ := id Va
      have hin124 : ¬ ((2 : Int32) < 0 ∨ cl124.slots.size ≤ ((2 : Int32)).toNatClampNeg) := inb_of S124 ⟨by decide, by decide⟩
      obtain ⟨cl125, Ar125, q125, S125, M125, H125, G125⟩ := id V_b114
      have hin125 : ¬ ((2 : Int32) < 0 ∨ cl125.slots.size ≤ ((2 : Int32)).toNatClampNeg) := inb_of S125 ⟨by decide, by decide⟩
      obtain ⟨T126, h126, X126, e126, W126, st126⟩ := stC X122 hx hZ e122 Ar125 (j := (2 : Int32)) hin125 (g := (mkF m 216 #[.val (.ref ar), .val (.int n1)] [(.int c2), (.int 2), (.ref b114), (.ref b114), (.ref b112), (.ref b112)])) rfl rfl (hb hby own_d9_216)
      have O := O.wr W126 g_b114
      have Va := Va.other W126 ne_ar_b114
      have F_value_b112 := F_value_b112.other W126 (Or.inl ne_b112_b114)
      have F_coder_b112 := F_coder_b112.other W126 (Or.inl ne_b112_b114)
      have E_b112 := E_b112.wr W126
      have hk := Nat.le_trans hk (Keep.of_wr W126).1
      have Z127 : n0 ≤ h126.size := Nat.le_trans Z123 (Keep.of_wr W126).1
      have KP := KP.wr W126 (Or.inr sz_b114)
      have V_b114 := Arv.set Ar125 q125 S125 M125 H125 G125 (fits_nar_char _) W126 2 rfl (Nat.le_of_ble_eq_true rfl)
      have V_b114 : Arv Z h126 b114 k114 .char (6 : Int32) [(.int c0), (.int c1), (.int c2), (.int 0), (.int 0), (.int 0)] (.int 0) := by have q := V_b114; simp only [nc2, List.set] at q; exact q
      have N126 := Fr.snoc X126 N122 g_b114
      obtain ⟨cl128, Ar128, q128, S128, M128, H128, G128⟩ := id Va
      have hin128 : ¬ ((3 : Int32) < 0 ∨ cl128.slots.size ≤ ((3 : Int32)).toNatClampNeg) := inb_of S128 ⟨by decide, by decide⟩
      obtain ⟨cl129, Ar129, q129, S129, M129, H129, G129⟩ := id V_b114
      have hin129 : ¬ ((3 : Int32) < 0 ∨ cl129.slots.size ≤ ((3 : Int32)).toNatClampNeg) := inb_of S129 ⟨by decide, by decide⟩
      obtain ⟨T130, h130, X130, e130, W130, st130⟩ := stC X126 hx hZ e126 Ar129 (j := (3 : Int32)) hin129 (g := (mkF m 222 #[.val (.ref ar), .val (.int n1)] [(.int c3), (.int 3), (.ref b114), (.ref b114), (.ref b112), (.ref b112)])) rfl rfl (hb hby own_d9_222)
      have O := O.wr W130 g_b114
      have Va := Va.other W130 ne_ar_b114
      have F_value_b112 := F_value_b112.other W130 (Or.inl ne_b112_b114)
      have F_coder_b112 := F_coder_b112.other W130 (Or.inl ne_b112_b114)
      have E_b112 := E_b112.wr W130
      have hk := Nat.le_trans hk (Keep.of_wr W130).1
      have Z131 : n0 ≤ h130.size := Nat.le_trans Z127 (Keep.of_wr W130).1
      have KP := KP.wr W130 (Or.inr sz_b114)
      have V_b114 := Arv.set Ar129 q129 S129 M129 H129 G129 (fits_nar_char _) W130 3 rfl (Nat.le_of_ble_eq_true rfl)
      have V_b114 : Arv Z h130 b114 k114 .char (6 : Int32) [(.int c0), (.int c1), (.int c2), (.int c3), (.int 0), (.int 0)] (.int 0) := by have q := V_b114; simp only [nc3, List.set] at q; exact q
      have N130 := Fr.snoc X130 N126 g_b114
      obtain ⟨cl132, Ar132, q132, S132, M132, H132, G132⟩ := id Va
      have hin132 : ¬ ((4 : Int32) < 0 ∨ cl132.slots.size ≤ ((4 : Int32)).toNatClampNeg) := inb_of S132 ⟨by decide, by decide⟩
      obtain ⟨cl133, Ar133, q133, S133, M133, H133, G133⟩ := id V_b114
      have hin133 : ¬ ((4 : Int32) < 0 ∨ cl133.slots.size ≤ ((4 : Int32)).toNatClampNeg) := inb_of S133 ⟨by decide, by decide⟩
      obtain ⟨T134, h134, X134, e134, W134, st134⟩ := stC X130 hx hZ e130 Ar133 (j := (4 : Int32)) hin133 (g := (mkF m 228 #[.val (.ref ar), .val (.int n1)] [(.int c4), (.int 4), (.ref b114), (.ref b114), (.ref b112), (.ref b112)])) rfl rfl (hb hby own_d9_228)
      have O := O.wr W134 g_b114
      have Va := Va.other W134 ne_ar_b114
      have F_value_b112 := F_value_b112.other W134 (Or.inl ne_b112_b114)
      have F_coder_b112 := F_coder_b112.other W134 (Or.inl ne_b112_b114)
      have E_b112 := E_b112.wr W134
      have hk := Nat.le_trans hk (Keep.of_wr W134).1
      have Z135 : n0 ≤ h134.size := Nat.le_trans Z131 (Keep.of_wr W134).1
      have KP := KP.wr W134 (Or.inr sz_b114)
      have V_b114 := Arv.set Ar133 q133 S133 M133 H133 G133 (fits_nar_char _) W134 4 rfl (Nat.le_of_ble_eq_true rfl)
      have V_b114 : Arv Z h134 b114 k114 .char (6 : Int32) [(.int c0), (.int c1), (.int c2), (.int c3), (.int c4), (.int 0)] (.int 0) := by have q := V_b114; simp only [nc4, List.set] at q; exact q
      have N134 := Fr.snoc X134 N130 g_b114
      obtain ⟨cl136, Ar136, q136, S136, M136, H136, G136⟩ := id Va
      have hin136 : ¬ ((5 : Int32) < 0 ∨ cl136.slots.size ≤ ((5 : Int32)).toNatClampNeg) := inb_of S136 ⟨by decide, by decide⟩
      obtain ⟨cl137, Ar137, q137, S137, M137, H137, G137⟩ := id V_b114
      have hin137 : ¬ ((5 : Int32) < 0 ∨ cl137.slots.size ≤ ((5 : Int32)).toNatClampNeg) := inb_of S137 ⟨by decide, by decide⟩
      obtain ⟨T138, h138, X138, e138, W138, st138⟩ := stC X134 hx hZ e134 Ar137 (j := (5 : Int32)) hin137 (g := (mkF m 234 #[.val (.ref ar), .val (.int n1)] [(.int c5), (.int 5), (.ref b114), (.ref b114), (.ref b112), (.ref b112)])) rfl rfl (hb hby own_d9_234)
      have O := O.wr W138 g_b114
      have Va := Va.other W138 ne_ar_b114
      have F_value_b112 := F_value_b112.other W138 (Or.inl ne_b112_b114)
      have F_coder_b112 := F_coder_b112.other W138 (Or.inl ne_b112_b114)
      have E_b112 := E_b112.wr W138
      have hk := Nat.le_trans hk (Keep.of_wr W138).1
      have Z139 : n0 ≤ h138.size := Nat.le_trans Z135 (Keep.of_wr W138).1
      have KP := KP.wr W138 (Or.inr sz_b114)
      have V_b114 := Arv.set Ar137 q137 S137 M137 H137 G137 (fits_nar_char _) W138 5 rfl (Nat.le_of_ble_eq_true rfl)
      have V_b114 : Arv Z h138 b114 k114 .char (6 : Int32) [(.int c0), (.int c1), (.int c2), (.int c3), (.int c4), (.int c5)] (.int 0) := by have q := V_b114; simp only [nc5, List.set] at q; exact q
      have N138 := Fr.snoc X138 N134 g_b114
      obtain ⟨_, _, ⟨T140, L140, k140, n140⟩, -, X140, ⟨Lc140, hQ140, l140, y140, z140⟩, st140⟩ := X138.specialBack hx (y := (⟨"java/lang/String", "<init>", "([C)V"⟩ : MethodName)) rfl hown (mvT hZ (hw _ (own_m (i := 55) rfl))) (mvT hZ (hw _ (own_m (i := 56) rfl))) (mvT hZ (hw _ (own_m (i := 57) rfl))) (by decide) (StrChars.Road.backV (W := 1) hZ (fun d hd => hw d ((by decide +kernel : ∀ d ∈ StrChars.Road.words, d ∈ tables_1) d hd)) (kI := 4) (hw _ (own_m (i := 2) rfl)) (cs := ([c0, c1, c2, c3, c4, c5] : List Int32)) (bs := List.map (fun c => c.toInt8.toInt32) ([c0, c1, c2, c3, c4, c5] : List Int32)) (n := 6) (n0 := n0) g_b112 Z139 E_b112 F_value_b112 F_coder_b112 V_b114 (S0.ext O.2) hcz rfl rfl (by decide) (by decide) (fun c hc => okA c (List.mem_of_mem_take (i := 6) hc)) rfl (by decide) (by decide)) (g := (mkF m 235 #[.val (.ref ar), .val (.int n1)] [(.ref b114), (.ref b112), (.ref b112)])) rfl (by rw [hml]; rfl) (Steps.refl _) (a := b112) (argsL := [(.ref b114)]) (rest := [(.ref b112)]) (lenOf own_pd4 rfl) rfl (by show 2 * 0 + _ ≤ _; exact Nat.le_of_eq rfl) (hb hby own_d9_235) (fun _ _ => ⟨rfl, e138, (by decide : 2 + 1 ≤ _), (by decide : 10 + 6 ≤ _)⟩)
      dsimp only [Pt.U, Pt.locs, Pt.cells, Pt.slots] at X140 l140 y140 z140 st140 hQ140
      subst l140 y140 z140
      obtain ⟨rfl, N140q, K140, Ee140, Fc140, b140, kb140, g1140, sz140, nx140, Fv140, VB140⟩ := hQ140
      have N140 := Fr.app N138 N140q
      have O := O.keep K140 (allS g_b112 all0)
      have E_b112 := E_b112.keep K140
      have V_b114 := V_b114.keep K140 (ninS (Ne.symm ne_b112_b114) nin0)
      have hk := Nat.le_trans hk K140.1
      have Z141 := Nat.le_trans Z139 K140.1
      have KP := KP.trans K140 (allS (Or.inr sz_b112) all0)
      obtain ⟨fs, hr, hrun, hended, hRW⟩ := X140.leaveW hS hk (v := some (.ref b112)) (fun h => by rw [Bd.returns] at h; cases h)
      refine ⟨_, _, pre110 _ ?_, hrun, hended, _, _, rfl, ?_, hRW.1, hRW.2.1, hRW.2.2.1, hRW.2.2.2.mono (by decide) (by decide)⟩
      · refine XS.icmpNo X0.here hx rfl (hb hby own_d9_188) rfl (teq hc111).2 ?_
        show Steps p.tables e below (s₁.setTop (mkF m 191 #[.val (.ref ar), .val (.int n1)] [])) _
        refine st112 _ ?_
        show Steps p.tables e below (T112.setTop (mkF m 194 #[.val (.ref ar), .val (.int n1)] [(.ref b112)])) _
        refine XS.dup X112.here hx rfl (hb hby own_d9_194) rfl rfl ?_
        show Steps p.tables e below (T112.setTop (mkF m 195 #[.val (.ref ar), .val (.int n1)] [(.ref b112), (.ref b112)])) _
        refine XS.bipush X112.here hx rfl (hb hby own_d9_195) ?_
        show Steps p.tables e below (T112.setTop (mkF m 197 #[.val (.ref ar), .val (.int n1)] [(.int 6), (.ref b112), (.ref b112)])) _
        refine st114 _ ?_
        show Steps p.tables e below (T114.setTop (mkF m 199 #[.val (.ref ar), .val (.int n1)] [(.ref b114), (.ref b112), (.ref b112)])) _
        refine XS.dup X114.here hx rfl (hb hby own_d9_199) rfl rfl ?_
        show Steps p.tables e below (T114.setTop (mkF m 200 #[.val (.ref ar), .val (.int n1)] [(.ref b114), (.ref b114), (.ref b112), (.ref b112)])) _
        refine XS.iconst X114.here hx rfl (hb hby own_d9_200) ?_
        show Steps p.tables e below (T114.setTop (mkF m 201 #[.val (.ref ar), .val (.int n1)] [(.int 0), (.ref b114), (.ref b114), (.ref b112), (.ref b112)])) _
        refine XS.aloadN X114.here hx rfl (hb hby own_d9_201) rfl rfl ?_
        show Steps p.tables e below (T114.setTop (mkF m 202 #[.val (.ref ar), .val (.int n1)] [(.ref ar), (.int 0), (.ref b114), (.ref b114), (.ref b112), (.ref b112)])) _
        refine XS.iconst X114.here hx rfl (hb hby own_d9_202) ?_
        show Steps p.tables e below (T114.setTop (mkF m 203 #[.val (.ref ar), .val (.int n1)] [(.int 0), (.ref ar), (.int 0), (.ref b114), (.ref b114), (.ref b112), (.ref b112)])) _
        refine X114.caload hx (j := (0 : Int32)) (v := (.int c0)) (by rw [e114]; exact Ar116.1) (State.isArrayOf_alike hZ.alike Ar116.2.1) Ar116.2.2 hin116 (H116.at hin116 rfl) (g := (mkF m 203 #[.val (.ref ar), .val (.int n1)] [(.int 0), (.ref ar), (.int 0), (.ref b114), (.ref b114), (.ref b112), (.ref b112)])) rfl rfl (hb hby own_d9_203) _ ?_
        show Steps p.tables e below (T114.setTop (mkF m 204 #[.val (.ref ar), .val (.int n1)] [(.int c0), (.int 0), (.ref b114), (.ref b114), (.ref b112), (.ref b112)])) _
        refine st118 _ ?_
        show Steps p.tables e below (T118.setTop (mkF m 205 #[.val (.ref ar), .val (.int n1)] [(.ref b114), (.ref b112), (.ref b112)])) _
        refine XS.dup X118.here hx rfl (hb hby own_d9_205) rfl rfl ?_
        show Steps p.tables e below (T118.setTop (mkF m 206 #[.val (.ref ar), .val (.int n1)] [(.ref b114), (.ref b114), (.ref b112), (.ref b112)])) _
        refine XS.iconst X118.here hx rfl (hb hby own_d9_206) ?_
        show Steps p.tables e below (T118.setTop (mkF m 207 #[.val (.ref ar), .val (.int n1)] [(.int 1), (.ref b114), (.ref b114), (.ref b112), (.ref b112)])) _
        refine XS.aloadN X118.here hx rfl (hb hby own_d9_207) rfl rfl ?_
        show Steps p.tables e below (T118.setTop (mkF m 208 #[.val (.ref ar), .val (.int n1)] [(.ref ar), (.int 1), (.ref b114), (.ref b114), (.ref b112), (.ref b112)])) _
        refine XS.iconst X118.here hx rfl (hb hby own_d9_208) ?_
        show Steps p.tables e below (T118.setTop (mkF m 209 #[.val (.ref ar), .val (.int n1)] [(.int 1), (.ref ar), (.int 1), (.ref b114), (.ref b114), (.ref b112), (.ref b112)])) _
        refine X118.caload hx (j := (1 : Int32)) (v := (.int c1)) (by rw [e118]; exact Ar120.1) (State.isArrayOf_alike hZ.alike Ar120.2.1) Ar120.2.2 hin120 (H120.at hin120 rfl) (g := (mkF m 209 #[.val (.ref ar), .val (.int n1)] [(.int 1), (.ref ar), (.int 1), (.ref b114), (.ref b114), (.ref b112), (.ref b112)])) rfl rfl (hb hby own_d9_209) _ ?_
        show Steps p.tables e below (T118.setTop (mkF m 210 #[.val (.ref ar), .val (.int n1)] [(.int c1), (.int 1), (.ref b114), (.ref b114), (.ref b112), (.ref b112)])) _
        refine st122 _ ?_
        show Steps p.tables e below (T122.setTop (mkF m 211 #[.val (.ref ar), .val (.int n1)] [(.ref b114), (.ref b112), (.ref b112)])) _
        refine XS.dup X122.here hx rfl (hb hby own_d9_211) rfl rfl ?_
        show Steps p.tables e below (T122.setTop (mkF m 212 #[.val (.ref ar), .val (.int n1)] [(.ref b114), (.ref b114), (.ref b112), (.ref b112)])) _
        refine XS.iconst X122.here hx rfl (hb hby own_d9_212) ?_
        show Steps p.tables e below (T122.setTop (mkF m 213 #[.val (.ref ar), .val (.int n1)] [(.int 2), (.ref b114), (.ref b114), (.ref b112), (.ref b112)])) _
        refine XS.aloadN X122.here hx rfl (hb hby own_d9_213) rfl rfl ?_
        show Steps p.tables e below (T122.setTop (mkF m 214 #[.val (.ref ar), .val (.int n1)] [(.ref ar), (.int 2), (.ref b114), (.ref b114), (.ref b112), (.ref b112)])) _
        refine XS.iconst X122.here hx rfl (hb hby own_d9_214) ?_
        show Steps p.tables e below (T122.setTop (mkF m 215 #[.val (.ref ar), .val (.int n1)] [(.int 2), (.ref ar), (.int 2), (.ref b114), (.ref b114), (.ref b112), (.ref b112)])) _
        refine X122.caload hx (j := (2 : Int32)) (v := (.int c2)) (by rw [e122]; exact Ar124.1) (State.isArrayOf_alike hZ.alike Ar124.2.1) Ar124.2.2 hin124 (H124.at hin124 rfl) (g := (mkF m 215 #[.val (.ref ar), .val (.int n1)] [(.int 2), (.ref ar), (.int 2), (.ref b114), (.ref b114), (.ref b112), (.ref b112)])) rfl rfl (hb hby own_d9_215) _ ?_
        show Steps p.tables e below (T122.setTop (mkF m 216 #[.val (.ref ar), .val (.int n1)] [(.int c2), (.int 2), (.ref b114), (.ref b114), (.ref b112), (.ref b112)])) _
        refine st126 _ ?_
        show Steps p.tables e below (T126.setTop (mkF m 217 #[.val (.ref ar), .val (.int n1)] [(.ref b114), (.ref b112), (.ref b112)])) _
        refine XS.dup X126.here hx rfl (hb hby own_d9_217) rfl rfl ?_
        show Steps p.tables e below (T126.setTop (mkF m 218 #[.val (.ref ar), .val (.int n1)] [(.ref b114), (.ref b114), (.ref b112), (.ref b112)])) _
        refine XS.iconst X126.here hx rfl (hb hby own_d9_218) ?_
        show Steps p.tables e below (T126.setTop (mkF m 219 #[.val (.ref ar), .val (.int n1)] [(.int 3), (.ref b114), (.ref b114), (.ref b112), (.ref b112)])) _
        refine XS.aloadN X126.here hx rfl (hb hby own_d9_219) rfl rfl ?_
        show Steps p.tables e below (T126.setTop (mkF m 220 #[.val (.ref ar), .val (.int n1)] [(.ref ar), (.int 3), (.ref b114), (.ref b114), (.ref b112), (.ref b112)])) _
        refine XS.iconst X126.here hx rfl (hb hby own_d9_220) ?_
        show Steps p.tables e below (T126.setTop (mkF m 221 #[.val (.ref ar), .val (.int n1)] [(.int 3), (.ref ar), (.int 3), (.ref b114), (.ref b114), (.ref b112), (.ref b112)])) _
        refine X126.caload hx (j := (3 : Int32)) (v := (.int c3)) (by rw [e126]; exact Ar128.1) (State.isArrayOf_alike hZ.alike Ar128.2.1) Ar128.2.2 hin128 (H128.at hin128 rfl) (g := (mkF m 221 #[.val (.ref ar), .val (.int n1)] [(.int 3), (.ref ar), (.int 3), (.ref b114), (.ref b114), (.ref b112), (.ref b112)])) rfl rfl (hb hby own_d9_221) _ ?_
        show Steps p.tables e below (T126.setTop (mkF m 222 #[.val (.ref ar), .val (.int n1)] [(.int c3), (.int 3), (.ref b114), (.ref b114), (.ref b112), (.ref b112)])) _
        refine st130 _ ?_
        show Steps p.tables e below (T130.setTop (mkF m 223 #[.val (.ref ar), .val (.int n1)] [(.ref b114), (.ref b112), (.ref b112)])) _
        refine XS.dup X130.here hx rfl (hb hby own_d9_223) rfl rfl ?_
        show Steps p.tables e below (T130.setTop (mkF m 224 #[.val (.ref ar), .val (.int n1)] [(.ref b114), (.ref b114), (.ref b112), (.ref b112)])) _
        refine XS.iconst X130.here hx rfl (hb hby own_d9_224) ?_
        show Steps p.tables e below (T130.setTop (mkF m 225 #[.val (.ref ar), .val (.int n1)] [(.int 4), (.ref b114), (.ref b114), (.ref b112), (.ref b112)])) _
        refine XS.aloadN X130.here hx rfl (hb hby own_d9_225) rfl rfl ?_
        show Steps p.tables e below (T130.setTop (mkF m 226 #[.val (.ref ar), .val (.int n1)] [(.ref ar), (.int 4), (.ref b114), (.ref b114), (.ref b112), (.ref b112)])) _
        refine XS.iconst X130.here hx rfl (hb hby own_d9_226) ?_
        show Steps p.tables e below (T130.setTop (mkF m 227 #[.val (.ref ar), .val (.int n1)] [(.int 4), (.ref ar), (.int 4), (.ref b114), (.ref b114), (.ref b112), (.ref b112)])) _
        refine X130.caload hx (j := (4 : Int32)) (v := (.int c4)) (by rw [e130]; exact Ar132.1) (State.isArrayOf_alike hZ.alike Ar132.2.1) Ar132.2.2 hin132 (H132.at hin132 rfl) (g := (mkF m 227 #[.val (.ref ar), .val (.int n1)] [(.int 4), (.ref ar), (.int 4), (.ref b114), (.ref b114), (.ref b112), (.ref b112)])) rfl rfl (hb hby own_d9_227) _ ?_
        show Steps p.tables e below (T130.setTop (mkF m 228 #[.val (.ref ar), .val (.int n1)] [(.int c4), (.int 4), (.ref b114), (.ref b114), (.ref b112), (.ref b112)])) _
        refine st134 _ ?_
        show Steps p.tables e below (T134.setTop (mkF m 229 #[.val (.ref ar), .val (.int n1)] [(.ref b114), (.ref b112), (.ref b112)])) _
        refine XS.dup X134.here hx rfl (hb hby own_d9_229) rfl rfl ?_
        show Steps p.tables e below (T134.setTop (mkF m 230 #[.val (.ref ar), .val (.int n1)] [(.ref b114), (.ref b114), (.ref b112), (.ref b112)])) _
        refine XS.iconst X134.here hx rfl (hb hby own_d9_230) ?_
        show Steps p.tables e below (T134.setTop (mkF m 231 #[.val (.ref ar), .val (.int n1)] [(.int 5), (.ref b114), (.ref b114), (.ref b112), (.ref b112)])) _
        refine XS.aloadN X134.here hx rfl (hb hby own_d9_231) rfl rfl ?_
        show Steps p.tables e below (T134.setTop (mkF m 232 #[.val (.ref ar), .val (.int n1)] [(.ref ar), (.int 5), (.ref b114), (.ref b114), (.ref b112), (.ref b112)])) _
        refine XS.iconst X134.here hx rfl (hb hby own_d9_232) ?_
        show Steps p.tables e below (T134.setTop (mkF m 233 #[.val (.ref ar), .val (.int n1)] [(.int 5), (.ref ar), (.int 5), (.ref b114), (.ref b114), (.ref b112), (.ref b112)])) _
        refine X134.caload hx (j := (5 : Int32)) (v := (.int c5)) (by rw [e134]; exact Ar136.1) (State.isArrayOf_alike hZ.alike Ar136.2.1) Ar136.2.2 hin136 (H136.at hin136 rfl) (g := (mkF m 233 #[.val (.ref ar), .val (.int n1)] [(.int 5), (.ref ar), (.int 5), (.ref b114), (.ref b114), (.ref b112), (.ref b112)])) rfl rfl (hb hby own_d9_233) _ ?_
        show Steps p.tables e below (T134.setTop (mkF m 234 #[.val (.ref ar), .val (.int n1)] [(.int c5), (.int 5), (.ref b114), (.ref b114), (.ref b112), (.ref b112)])) _
        refine st138 _ ?_
        show Steps p.tables e below (T138.setTop (mkF m 235 #[.val (.ref ar), .val (.int n1)] [(.ref b114), (.ref b112), (.ref b112)])) _
        refine st140.trans ?_
        show Steps p.tables e below (T140.setTop (mkF m 238 #[.val (.ref ar), .val (.int n1)] [(.ref b112)])) _
        exact retOut X140 hx (t := (.object "java/lang/String")) Bd.returns rfl (Or.inr (Or.inr (Or.inr (Or.inr ⟨rfl, rfl, rfl⟩)))) (hb hby own_d9_238) hr
      have hnk : nn = 6 := own_nk hnn hc111 hn13 (by decide)
      · show own_Q_own_prefix Z ar n1 Ts cz ka AA nn h0 n0 _ T140.heap _
        subst hnk
        exact ⟨b112, b140, kb140, rfl, N140, KP, Ee140, Fc140, Fv140, by rw [eA]; exact VB140⟩
  have pre142 : ∀ t, Steps p.tables e below (s₁.setTop (mkF m 242 #[.val (.ref ar), .val (.int n1)] [(.int 7), (.int n1)])) t → Steps p.tables e below (s₁.setTop (entryFrame m #[(.ref ar), (.int n1)] 2)) t := fun t k => pre110 t (by
    refine XS.icmpYes X0.here hx rfl (pc0 := 188) (pc' := 239) rfl (hb hby own_d9_188) rfl (feq hc111).2 (by decide) (by decide) ?_
    show Steps p.tables e below (s₁.setTop (mkF m 239 #[.val (.ref ar), .val (.int n1)] [])) _
    refine XS.iloadN X0.here hx rfl (hb hby own_d9_239) rfl ?_
    show Steps p.tables e below (s₁.setTop (mkF m 240 #[.val (.ref ar), .val (.int n1)] [(.int n1)])) _
    refine XS.bipush X0.here hx rfl (hb hby own_d9_240) ?_
    show Steps p.tables e below (s₁.setTop (mkF m 242 #[.val (.ref ar), .val (.int n1)] [(.int 7), (.int n1)])) _
    exact k)
  by_cases hc143 : n1 = (7 : Int32)
  · skip
    as_aux_lemma =>
      obtain ⟨T144, h144, X144, e144, E144, A144, D144, U144, st144⟩ := newO X0 hx hZ hown (hw _ (own_m (i := 54) rfl)) (hw _ (own_m (i := 2) rfl)) (hw _ (own_m (i := 1) rfl)) e0 (g := (mkF m 245 #[.val (.ref ar), .val (.int n1)] [])) rfl (hb hby own_d9_245) (by decide) (by decide)
      obtain ⟨b144, g144⟩ : ∃ z, z = h0.size := ⟨_, rfl⟩
      rw [← g144] at A144 D144 U144 st144
      have g_b144 : n0 ≤ b144 := Nat.le_trans Z0 (Nat.le_of_eq g144.symm)
      have sz_b144 : h0.size ≤ b144 := Nat.le_trans KP.1 (Nat.le_of_eq g144.symm)
      have ne_ar_b144 : ar ≠ b144 := Nat.ne_of_lt (Nat.lt_of_lt_of_le Va.lt (Nat.le_of_eq g144.symm))
      have O := O.ext E144
      have Va := Va.ext E144
      have hk := Nat.le_trans hk E144.1
      have Z145 : n0 ≤ h144.size := Nat.le_trans Z0 E144.1
      have KP := KP.ext E144
      have F_value_b144 : Fld Z h144 b144 "java/lang/String" "value" "[B" .null := D144 (Or.inr (hw _ (own_m (i := 4) rfl))) (ty := (.array .byte)) (by decide)
      have F_coder_b144 : Fld Z h144 b144 "java/lang/String" "coder" "B" (.int 0) := D144 (Or.inr (hw _ (own_m (i := 5) rfl))) (ty := .byte) (by decide)
      have E_b144 := A144
      obtain ⟨T146, h146, k146, X146, e146, E146, A146, st146⟩ := newP X144 hx hZ (hw _ (own_m (i := 24) rfl)) e144 (g := (mkF m 251 #[.val (.ref ar), .val (.int n1)] [(.int 7), (.ref b144), (.ref b144)])) rfl (hb hby own_d9_251) rfl (by decide) (cap := 7) (by decide) (by decide) (by decide) (by decide)
      obtain ⟨b146, g146⟩ : ∃ z, z = h144.size := ⟨_, rfl⟩
      rw [← g146] at A146 st146
      have g_b146 : n0 ≤ b146 := Nat.le_trans Z145 (Nat.le_of_eq g146.symm)
      have sz_b146 : h0.size ≤ b146 := Nat.le_trans KP.1 (Nat.le_of_eq g146.symm)
      have ne_ar_b146 : ar ≠ b146 := Nat.ne_of_lt (Nat.lt_of_lt_of_le Va.lt (Nat.le_of_eq g146.symm))
      have ne_b144_b146 : b144 ≠ b146 := Nat.ne_of_lt (Nat.lt_of_lt_of_le F_value_b144.lt (Nat.le_of_eq g146.symm))
      have O := O.ext E146
      have Va := Va.ext E146
      have F_value_b144 := F_value_b144.ext E146
      have F_coder_b144 := F_coder_b144.ext E146
      have E_b144 := E_b144.ext E146
      have hk := Nat.le_trans hk E146.1
      have Z147 : n0 ≤ h146.size := Nat.le_trans Z145 E146.1
      have KP := KP.ext E146
      have V_b146 : Arv Z h146 b146 k146 .char (7 : Int32) [(.int 0), (.int 0), (.int 0), (.int 0), (.int 0), (.int 0), (.int 0)] (.int 0) := (Arv.new A146 (by decide)).pad (pad_rep [] (.int 0) 7)
      obtain ⟨cl148, Ar148, q148, S148, M148, H148, G148⟩ := id Va
      have hin148 : ¬ ((0 : Int32) < 0 ∨ cl148.slots.size ≤ ((0 : Int32)).toNatClampNeg) := inb_of S148 ⟨by decide, by decide⟩
      obtain ⟨cl149, Ar149, q149, S149, M149, H149, G149⟩ := id V_b146
      have hin149 : ¬ ((0 : Int32) < 0 ∨ cl149.slots.size ≤ ((0 : Int32)).toNatClampNeg) := inb_of S149 ⟨by decide, by decide⟩
      obtain ⟨T150, h150, X150, e150, W150, st150⟩ := stC X146 hx hZ e146 Ar149 (j := (0 : Int32)) hin149 (g := (mkF m 258 #[.val (.ref ar), .val (.int n1)] [(.int c0), (.int 0), (.ref b146), (.ref b146), (.ref b144), (.ref b144)])) rfl rfl (hb hby own_d9_258)
      have O := O.wr W150 g_b146
      have Va := Va.other W150 ne_ar_b146
      have F_value_b144 := F_value_b144.other W150 (Or.inl ne_b144_b146)
      have F_coder_b144 := F_coder_b144.other W150 (Or.inl ne_b144_b146)
      have E_b144 := E_b144.wr W150
      have hk := Nat.le_trans hk (Keep.of_wr W150).1
      have Z151 : n0 ≤ h150.size := Nat.le_trans Z147 (Keep.of_wr W150).1
      have KP := KP.wr W150 (Or.inr sz_b146)
      have V_b146 := Arv.set Ar149 q149 S149 M149 H149 G149 (fits_nar_char _) W150 0 rfl (Nat.le_of_ble_eq_true rfl)
      have V_b146 : Arv Z h150 b146 k146 .char (7 : Int32) [(.int c0), (.int 0), (.int 0), (.int 0), (.int 0), (.int 0), (.int 0)] (.int 0) := by have q := V_b146; simp only [nc0, List.set] at q; exact q
      have N150 := Fr.snoc X150 N0 g_b146
      obtain ⟨cl152, Ar152, q152, S152, M152, H152, G152⟩ := id Va
      have hin152 : ¬ ((1 : Int32) < 0 ∨ cl152.slots.size ≤ ((1 : Int32)).toNatClampNeg) := inb_of S152 ⟨by decide, by decide⟩
      obtain ⟨cl153, Ar153, q153, S153, M153, H153, G153⟩ := id V_b146
      have hin153 : ¬ ((1 : Int32) < 0 ∨ cl153.slots.size ≤ ((1 : Int32)).toNatClampNeg) := inb_of S153 ⟨by decide, by decide⟩
      obtain ⟨T154, h154, X154, e154, W154, st154⟩ := stC X150 hx hZ e150 Ar153 (j := (1 : Int32)) hin153 (g := (mkF m 264 #[.val (.ref ar), .val (.int n1)] [(.int c1), (.int 1), (.ref b146), (.ref b146), (.ref b144), (.ref b144)])) rfl rfl (hb hby own_d9_264)
      have O := O.wr W154 g_b146
      have Va := Va.other W154 ne_ar_b146
      have F_value_b144 := F_value_b144.other W154 (Or.inl ne_b144_b146)
      have F_coder_b144 := F_coder_b144.other W154 (Or.inl ne_b144_b146)
      have E_b144 := E_b144.wr W154
      have hk := Nat.le_trans hk (Keep.of_wr W154).1
      have Z155 : n0 ≤ h154.size := Nat.le_trans Z151 (Keep.of_wr W154).1
      have KP := KP.wr W154 (Or.inr sz_b146)
      have V_b146 := Arv.set Ar153 q153 S153 M153 H153 G153 (fits_nar_char _) W154 1 rfl (Nat.le_of_ble_eq_true rfl)
      have V_b146 : Arv Z h154 b146 k146 .char (7 : Int32) [(.int c0), (.int c1), (.int 0), (.int 0), (.int 0), (.int 0), (.int 0)] (.int 0) := by have q := V_b146; simp only [nc1, List.set] at q; exact q
      have N154 := Fr.snoc X154 N150 g_b146
      obtain ⟨cl156, Ar156, q156, S156, M156, H156, G156⟩ := id Va
      have hin156 : ¬ ((2 : Int32) < 0 ∨ cl156.slots.size ≤ ((2 : Int32)).toNatClampNeg) := inb_of S156 ⟨by decide, by decide⟩
      obtain ⟨cl157, Ar157, q157, S157, M157, H157, G157⟩ := id V_b146
      have hin157 : ¬ ((2 : Int32) < 0 ∨ cl157.slots.size ≤ ((2 : Int32)).toNatClampNeg) := inb_of S157 ⟨by decide, by decide⟩
      obtain ⟨T158, h158, X158, e158, W158, st158⟩ := stC X154 hx hZ e154 Ar157 (j := (2 : Int32)) hin157 (g := (mkF m 270 #[.val (.ref ar), .val (.int n1)] [(.int c2), (.int 2), (.ref b146), (.ref b146), (.ref b144), (.ref b144)])) rfl rfl (hb hby own_d9_270)
      have O := O.wr W158 g_b146
      have Va := Va.other W158 ne_ar_b146
      have F_value_b144 := F_value_b144.other W158 (Or.inl ne_b144_b146)
      have F_coder_b144 := F_coder_b144.other W158 (Or.inl ne_b144_b146)
      have E_b144 := E_b144.wr W158
      have hk := Nat.le_trans hk (Keep.of_wr W158).1
      have Z159 : n0 ≤ h158.size := Nat.le_trans Z155 (Keep.of_wr W158).1
      have KP := KP.wr W158 (Or.inr sz_b146)
      have V_b146 := Arv.set Ar157 q157 S157 M157 H157 G157 (fits_nar_char _) W158 2 rfl (Nat.le_of_ble_eq_true rfl)
      have V_b146 : Arv Z h158 b146 k146 .char (7 : Int32) [(.int c0), (.int c1), (.int c2), (.int 0), (.int 0), (.int 0), (.int 0)] (.int 0) := by have q := V_b146; simp only [nc2, List.set] at q; exact q
      have N158 := Fr.snoc X158 N154 g_b146
      obtain ⟨cl160, Ar160, q160, S160, M160, H160, G160⟩ := id Va
      have hin160 : ¬ ((3 : Int32) < 0 ∨ cl160.slots.size ≤ ((3 : Int32)).toNatClampNeg) := inb_of S160 ⟨by decide, by decide⟩
      obtain ⟨cl161, Ar161, q161, S161, M161, H161, G161⟩ := id V_b146
      have hin161 : ¬ ((3 : Int32) < 0 ∨ cl161.slots.size ≤ ((3 : Int32)).toNatClampNeg) := inb_of S161 ⟨by decide, by decide⟩
      obtain ⟨T162, h162, X162, e162, W162, st162⟩ := stC X158 hx hZ e158 Ar161 (j := (3 : Int32)) hin161 (g := (mkF m 276 #[.val (.ref ar), .val (.int n1)] [(.int c3), (.int 3), (.ref b146), (.ref b146), (.ref b144), (.ref b144)])) rfl rfl (hb hby own_d9_276)
      have O := O.wr W162 g_b146
      have Va := Va.other W162 ne_ar_b146
      have F_value_b144 := F_value_b144.other W162 (Or.inl ne_b144_b146)
      have F_coder_b144 := F_coder_b144.other W162 (Or.inl ne_b144_b146)
      have E_b144 := E_b144.wr W162
      have hk := Nat.le_trans hk (Keep.of_wr W162).1
      have Z163 : n0 ≤ h162.size := Nat.le_trans Z159 (Keep.of_wr W162).1
      have KP := KP.wr W162 (Or.inr sz_b146)
      have V_b146 := Arv.set Ar161 q161 S161 M161 H161 G161 (fits_nar_char _) W162 3 rfl (Nat.le_of_ble_eq_true rfl)
      have V_b146 : Arv Z h162 b146 k146 .char (7 : Int32) [(.int c0), (.int c1), (.int c2), (.int c3), (.int 0), (.int 0), (.int 0)] (.int 0) := by have q := V_b146; simp only [nc3, List.set] at q; exact q
      have N162 := Fr.snoc X162 N158 g_b146
      obtain ⟨cl164, Ar164, q164, S164, M164, H164, G164⟩ := id Va
      have hin164 : ¬ ((4 : Int32) < 0 ∨ cl164.slots.size ≤ ((4 : Int32)).toNatClampNeg) := inb_of S164 ⟨by decide, by decide⟩
      obtain ⟨cl165, Ar165, q165, S165, M165, H165, G165⟩ := id V_b146
      have hin165 : ¬ ((4 : Int32) < 0 ∨ cl165.slots.size ≤ ((4 : Int32)).toNatClampNeg) := inb_of S165 ⟨by decide, by decide⟩
      obtain ⟨T166, h166, X166, e166, W166, st166⟩ := stC X162 hx hZ e162 Ar165 (j := (4 : Int32)) hin165 (g := (mkF m 282 #[.val (.ref ar), .val (.int n1)] [(.int c4), (.int 4), (.ref b146), (.ref b146), (.ref b144), (.ref b144)])) rfl rfl (hb hby own_d9_282)
      have O := O.wr W166 g_b146
      have Va := Va.other W166 ne_ar_b146
      have F_value_b144 := F_value_b144.other W166 (Or.inl ne_b144_b146)
      have F_coder_b144 := F_coder_b144.other W166 (Or.inl ne_b144_b146)
      have E_b144 := E_b144.wr W166
      have hk := Nat.le_trans hk (Keep.of_wr W166).1
      have Z167 : n0 ≤ h166.size := Nat.le_trans Z163 (Keep.of_wr W166).1
      have KP := KP.wr W166 (Or.inr sz_b146)
      have V_b146 := Arv.set Ar165 q165 S165 M165 H165 G165 (fits_nar_char _) W166 4 rfl (Nat.le_of_ble_eq_true rfl)
      have V_b146 : Arv Z h166 b146 k146 .char (7 : Int32) [(.int c0), (.int c1), (.int c2), (.int c3), (.int c4), (.int 0), (.int 0)] (.int 0) := by have q := V_b146; simp only [nc4, List.set] at q; exact q
      have N166 := Fr.snoc X166 N162 g_b146
      obtain ⟨cl168, Ar168, q168, S168, M168, H168, G168⟩ := id Va
      have hin168 : ¬ ((5 : Int32) < 0 ∨ cl168.slots.size ≤ ((5 : Int32)).toNatClampNeg) := inb_of S168 ⟨by decide, by decide⟩
      obtain ⟨cl169, Ar169, q169, S169, M169, H169, G169⟩ := id V_b146
      have hin169 : ¬ ((5 : Int32) < 0 ∨ cl169.slots.size ≤ ((5 : Int32)).toNatClampNeg) := inb_of S169 ⟨by decide, by decide⟩
      obtain ⟨T170, h170, X170, e170, W170, st170⟩ := stC X166 hx hZ e166 Ar169 (j := (5 : Int32)) hin169 (g := (mkF m 288 #[.val (.ref ar), .val (.int n1)] [(.int c5), (.int 5), (.ref b146), (.ref b146), (.ref b144), (.ref b144)])) rfl rfl (hb hby own_d9_288)
      have O := O.wr W170 g_b146
      have Va := Va.other W170 ne_ar_b146
      have F_value_b144 := F_value_b144.other W170 (Or.inl ne_b144_b146)
      have F_coder_b144 := F_coder_b144.other W170 (Or.inl ne_b144_b146)
      have E_b144 := E_b144.wr W170
      have hk := Nat.le_trans hk (Keep.of_wr W170).1
      have Z171 : n0 ≤ h170.size := Nat.le_trans Z167 (Keep.of_wr W170).1
      have KP := KP.wr W170 (Or.inr sz_b146)
      have V_b146 := Arv.set Ar169 q169 S169 M169 H169 G169 (fits_nar_char _) W170 5 rfl (Nat.le_of_ble_eq_true rfl)
      have V_b146 : Arv Z h170 b146 k146 .char (7 : Int32) [(.int c0), (.int c1), (.int c2), (.int c3), (.int c4), (.int c5), (.int 0)] (.int 0) := by have q := V_b146; simp only [nc5, List.set] at q; exact q
      have N170 := Fr.snoc X170 N166 g_b146
      obtain ⟨cl172, Ar172, q172, S172, M172, H172, G172⟩ := id Va
      have hin172 : ¬ ((6 : Int32) < 0 ∨ cl172.slots.size ≤ ((6 : Int32)).toNatClampNeg) := inb_of S172 ⟨by decide, by decide⟩
      obtain ⟨cl173, Ar173, q173, S173, M173, H173, G173⟩ := id V_b146
      have hin173 : ¬ ((6 : Int32) < 0 ∨ cl173.slots.size ≤ ((6 : Int32)).toNatClampNeg) := inb_of S173 ⟨by decide, by decide⟩
      obtain ⟨T174, h174, X174, e174, W174, st174⟩ := stC X170 hx hZ e170 Ar173 (j := (6 : Int32)) hin173 (g := (mkF m 296 #[.val (.ref ar), .val (.int n1)] [(.int c6), (.int 6), (.ref b146), (.ref b146), (.ref b144), (.ref b144)])) rfl rfl (hb hby own_d9_296)
      have O := O.wr W174 g_b146
      have Va := Va.other W174 ne_ar_b146
      have F_value_b144 := F_value_b144.other W174 (Or.inl ne_b144_b146)
      have F_coder_b144 := F_coder_b144.other W174 (Or.inl ne_b144_b146)
      have E_b144 := E_b144.wr W174
      have hk := Nat.le_trans hk (Keep.of_wr W174).1
      have Z175 : n0 ≤ h174.size := Nat.le_trans Z171 (Keep.of_wr W174).1
      have KP := KP.wr W174 (Or.inr sz_b146)
      have V_b146 := Arv.set Ar173 q173 S173 M173 H173 G173 (fits_nar_char _) W174 6 rfl (Nat.le_of_ble_eq_true rfl)
      have V_b146 : Arv Z h174 b146 k146 .char (7 : Int32) [(.int c0), (.int c1), (.int c2), (.int c3), (.int c4), (.int c5), (.int c6)] (.int 0) := by have q := V_b146; simp only [nc6, List.set] at q; exact q
      have N174 := Fr.snoc X174 N170 g_b146
      obtain ⟨_, _, ⟨T176, L176, k176, n176⟩, -, X176, ⟨Lc176, hQ176, l176, y176, z176⟩, st176⟩ := X174.specialBack hx (y := (⟨"java/lang/String", "<init>", "([C)V"⟩ : MethodName)) rfl hown (mvT hZ (hw _ (own_m (i := 55) rfl))) (mvT hZ (hw _ (own_m (i := 56) rfl))) (mvT hZ (hw _ (own_m (i := 57) rfl))) (by decide) (StrChars.Road.backV (W := 1) hZ (fun d hd => hw d ((by decide +kernel : ∀ d ∈ StrChars.Road.words, d ∈ tables_1) d hd)) (kI := 4) (hw _ (own_m (i := 2) rfl)) (cs := ([c0, c1, c2, c3, c4, c5, c6] : List Int32)) (bs := List.map (fun c => c.toInt8.toInt32) ([c0, c1, c2, c3, c4, c5, c6] : List Int32)) (n := 7) (n0 := n0) g_b144 Z175 E_b144 F_value_b144 F_coder_b144 V_b146 (S0.ext O.2) hcz rfl rfl (by decide) (by decide) (fun c hc => okA c (List.mem_of_mem_take (i := 7) hc)) rfl (by decide) (by decide)) (g := (mkF m 297 #[.val (.ref ar), .val (.int n1)] [(.ref b146), (.ref b144), (.ref b144)])) rfl (by rw [hml]; rfl) (Steps.refl _) (a := b144) (argsL := [(.ref b146)]) (rest := [(.ref b144)]) (lenOf own_pd4 rfl) rfl (by show 2 * 0 + _ ≤ _; exact Nat.le_of_eq rfl) (hb hby own_d9_297) (fun _ _ => ⟨rfl, e174, (by decide : 2 + 1 ≤ _), (by decide : 11 + 7 ≤ _)⟩)
      dsimp only [Pt.U, Pt.locs, Pt.cells, Pt.slots] at X176 l176 y176 z176 st176 hQ176
      subst l176 y176 z176
      obtain ⟨rfl, N176q, K176, Ee176, Fc176, b176, kb176, g1176, sz176, nx176, Fv176, VB176⟩ := hQ176
      have N176 := Fr.app N174 N176q
      have O := O.keep K176 (allS g_b144 all0)
      have E_b144 := E_b144.keep K176
      have V_b146 := V_b146.keep K176 (ninS (Ne.symm ne_b144_b146) nin0)
      have hk := Nat.le_trans hk K176.1
      have Z177 := Nat.le_trans Z175 K176.1
      have KP := KP.trans K176 (allS (Or.inr sz_b144) all0)
      obtain ⟨fs, hr, hrun, hended, hRW⟩ := X176.leaveW hS hk (v := some (.ref b144)) (fun h => by rw [Bd.returns] at h; cases h)
      refine ⟨_, _, pre142 _ ?_, hrun, hended, _, _, rfl, ?_, hRW.1, hRW.2.1, hRW.2.2.1, hRW.2.2.2.mono (by decide) (by decide)⟩
      · refine XS.icmpNo X0.here hx rfl (hb hby own_d9_242) rfl (teq hc143).2 ?_
        show Steps p.tables e below (s₁.setTop (mkF m 245 #[.val (.ref ar), .val (.int n1)] [])) _
        refine st144 _ ?_
        show Steps p.tables e below (T144.setTop (mkF m 248 #[.val (.ref ar), .val (.int n1)] [(.ref b144)])) _
        refine XS.dup X144.here hx rfl (hb hby own_d9_248) rfl rfl ?_
        show Steps p.tables e below (T144.setTop (mkF m 249 #[.val (.ref ar), .val (.int n1)] [(.ref b144), (.ref b144)])) _
        refine XS.bipush X144.here hx rfl (hb hby own_d9_249) ?_
        show Steps p.tables e below (T144.setTop (mkF m 251 #[.val (.ref ar), .val (.int n1)] [(.int 7), (.ref b144), (.ref b144)])) _
        refine st146 _ ?_
        show Steps p.tables e below (T146.setTop (mkF m 253 #[.val (.ref ar), .val (.int n1)] [(.ref b146), (.ref b144), (.ref b144)])) _
        refine XS.dup X146.here hx rfl (hb hby own_d9_253) rfl rfl ?_
        show Steps p.tables e below (T146.setTop (mkF m 254 #[.val (.ref ar), .val (.int n1)] [(.ref b146), (.ref b146), (.ref b144), (.ref b144)])) _
        refine XS.iconst X146.here hx rfl (hb hby own_d9_254) ?_
        show Steps p.tables e below (T146.setTop (mkF m 255 #[.val (.ref ar), .val (.int n1)] [(.int 0), (.ref b146), (.ref b146), (.ref b144), (.ref b144)])) _
        refine XS.aloadN X146.here hx rfl (hb hby own_d9_255) rfl rfl ?_
        show Steps p.tables e below (T146.setTop (mkF m 256 #[.val (.ref ar), .val (.int n1)] [(.ref ar), (.int 0), (.ref b146), (.ref b146), (.ref b144), (.ref b144)])) _
        refine XS.iconst X146.here hx rfl (hb hby own_d9_256) ?_
        show Steps p.tables e below (T146.setTop (mkF m 257 #[.val (.ref ar), .val (.int n1)] [(.int 0), (.ref ar), (.int 0), (.ref b146), (.ref b146), (.ref b144), (.ref b144)])) _
        refine X146.caload hx (j := (0 : Int32)) (v := (.int c0)) (by rw [e146]; exact Ar148.1) (State.isArrayOf_alike hZ.alike Ar148.2.1) Ar148.2.2 hin148 (H148.at hin148 rfl) (g := (mkF m 257 #[.val (.ref ar), .val (.int n1)] [(.int 0), (.ref ar), (.int 0), (.ref b146), (.ref b146), (.ref b144), (.ref b144)])) rfl rfl (hb hby own_d9_257) _ ?_
        show Steps p.tables e below (T146.setTop (mkF m 258 #[.val (.ref ar), .val (.int n1)] [(.int c0), (.int 0), (.ref b146), (.ref b146), (.ref b144), (.ref b144)])) _
        refine st150 _ ?_
        show Steps p.tables e below (T150.setTop (mkF m 259 #[.val (.ref ar), .val (.int n1)] [(.ref b146), (.ref b144), (.ref b144)])) _
        refine XS.dup X150.here hx rfl (hb hby own_d9_259) rfl rfl ?_
        show Steps p.tables e below (T150.setTop (mkF m 260 #[.val (.ref ar), .val (.int n1)] [(.ref b146), (.ref b146), (.ref b144), (.ref b144)])) _
        refine XS.iconst X150.here hx rfl (hb hby own_d9_260) ?_
        show Steps p.tables e below (T150.setTop (mkF m 261 #[.val (.ref ar), .val (.int n1)] [(.int 1), (.ref b146), (.ref b146), (.ref b144), (.ref b144)])) _
        refine XS.aloadN X150.here hx rfl (hb hby own_d9_261) rfl rfl ?_
        show Steps p.tables e below (T150.setTop (mkF m 262 #[.val (.ref ar), .val (.int n1)] [(.ref ar), (.int 1), (.ref b146), (.ref b146), (.ref b144), (.ref b144)])) _
        refine XS.iconst X150.here hx rfl (hb hby own_d9_262) ?_
        show Steps p.tables e below (T150.setTop (mkF m 263 #[.val (.ref ar), .val (.int n1)] [(.int 1), (.ref ar), (.int 1), (.ref b146), (.ref b146), (.ref b144), (.ref b144)])) _
        refine X150.caload hx (j := (1 : Int32)) (v := (.int c1)) (by rw [e150]; exact Ar152.1) (State.isArrayOf_alike hZ.alike Ar152.2.1) Ar152.2.2 hin152 (H152.at hin152 rfl) (g := (mkF m 263 #[.val (.ref ar), .val (.int n1)] [(.int 1), (.ref ar), (.int 1), (.ref b146), (.ref b146), (.ref b144), (.ref b144)])) rfl rfl (hb hby own_d9_263) _ ?_
        show Steps p.tables e below (T150.setTop (mkF m 264 #[.val (.ref ar), .val (.int n1)] [(.int c1), (.int 1), (.ref b146), (.ref b146), (.ref b144), (.ref b144)])) _
        refine st154 _ ?_
        show Steps p.tables e below (T154.setTop (mkF m 265 #[.val (.ref ar), .val (.int n1)] [(.ref b146), (.ref b144), (.ref b144)])) _
        refine XS.dup X154.here hx rfl (hb hby own_d9_265) rfl rfl ?_
        show Steps p.tables e below (T154.setTop (mkF m 266 #[.val (.ref ar), .val (.int n1)] [(.ref b146), (.ref b146), (.ref b144), (.ref b144)])) _
        refine XS.iconst X154.here hx rfl (hb hby own_d9_266) ?_
        show Steps p.tables e below (T154.setTop (mkF m 267 #[.val (.ref ar), .val (.int n1)] [(.int 2), (.ref b146), (.ref b146), (.ref b144), (.ref b144)])) _
        refine XS.aloadN X154.here hx rfl (hb hby own_d9_267) rfl rfl ?_
        show Steps p.tables e below (T154.setTop (mkF m 268 #[.val (.ref ar), .val (.int n1)] [(.ref ar), (.int 2), (.ref b146), (.ref b146), (.ref b144), (.ref b144)])) _
        refine XS.iconst X154.here hx rfl (hb hby own_d9_268) ?_
        show Steps p.tables e below (T154.setTop (mkF m 269 #[.val (.ref ar), .val (.int n1)] [(.int 2), (.ref ar), (.int 2), (.ref b146), (.ref b146), (.ref b144), (.ref b144)])) _
        refine X154.caload hx (j := (2 : Int32)) (v := (.int c2)) (by rw [e154]; exact Ar156.1) (State.isArrayOf_alike hZ.alike Ar156.2.1) Ar156.2.2 hin156 (H156.at hin156 rfl) (g := (mkF m 269 #[.val (.ref ar), .val (.int n1)] [(.int 2), (.ref ar), (.int 2), (.ref b146), (.ref b146), (.ref b144), (.ref b144)])) rfl rfl (hb hby own_d9_269) _ ?_
        show Steps p.tables e below (T154.setTop (mkF m 270 #[.val (.ref ar), .val (.int n1)] [(.int c2), (.int 2), (.ref b146), (.ref b146), (.ref b144), (.ref b144)])) _
        refine st158 _ ?_
        show Steps p.tables e below (T158.setTop (mkF m 271 #[.val (.ref ar), .val (.int n1)] [(.ref b146), (.ref b144), (.ref b144)])) _
        refine XS.dup X158.here hx rfl (hb hby own_d9_271) rfl rfl ?_
        show Steps p.tables e below (T158.setTop (mkF m 272 #[.val (.ref ar), .val (.int n1)] [(.ref b146), (.ref b146), (.ref b144), (.ref b144)])) _
        refine XS.iconst X158.here hx rfl (hb hby own_d9_272) ?_
        show Steps p.tables e below (T158.setTop (mkF m 273 #[.val (.ref ar), .val (.int n1)] [(.int 3), (.ref b146), (.ref b146), (.ref b144), (.ref b144)])) _
        refine XS.aloadN X158.here hx rfl (hb hby own_d9_273) rfl rfl ?_
        show Steps p.tables e below (T158.setTop (mkF m 274 #[.val (.ref ar), .val (.int n1)] [(.ref ar), (.int 3), (.ref b146), (.ref b146), (.ref b144), (.ref b144)])) _
        refine XS.iconst X158.here hx rfl (hb hby own_d9_274) ?_
        show Steps p.tables e below (T158.setTop (mkF m 275 #[.val (.ref ar), .val (.int n1)] [(.int 3), (.ref ar), (.int 3), (.ref b146), (.ref b146), (.ref b144), (.ref b144)])) _
        refine X158.caload hx (j := (3 : Int32)) (v := (.int c3)) (by rw [e158]; exact Ar160.1) (State.isArrayOf_alike hZ.alike Ar160.2.1) Ar160.2.2 hin160 (H160.at hin160 rfl) (g := (mkF m 275 #[.val (.ref ar), .val (.int n1)] [(.int 3), (.ref ar), (.int 3), (.ref b146), (.ref b146), (.ref b144), (.ref b144)])) rfl rfl (hb hby own_d9_275) _ ?_
        show Steps p.tables e below (T158.setTop (mkF m 276 #[.val (.ref ar), .val (.int n1)] [(.int c3), (.int 3), (.ref b146), (.ref b146), (.ref b144), (.ref b144)])) _
        refine st162 _ ?_
        show Steps p.tables e below (T162.setTop (mkF m 277 #[.val (.ref ar), .val (.int n1)] [(.ref b146), (.ref b144), (.ref b144)])) _
        refine XS.dup X162.here hx rfl (hb hby own_d9_277) rfl rfl ?_
        show Steps p.tables e below (T162.setTop (mkF m 278 #[.val (.ref ar), .val (.int n1)] [(.ref b146), (.ref b146), (.ref b144), (.ref b144)])) _
        refine XS.iconst X162.here hx rfl (hb hby own_d9_278) ?_
        show Steps p.tables e below (T162.setTop (mkF m 279 #[.val (.ref ar), .val (.int n1)] [(.int 4), (.ref b146), (.ref b146), (.ref b144), (.ref b144)])) _
        refine XS.aloadN X162.here hx rfl (hb hby own_d9_279) rfl rfl ?_
        show Steps p.tables e below (T162.setTop (mkF m 280 #[.val (.ref ar), .val (.int n1)] [(.ref ar), (.int 4), (.ref b146), (.ref b146), (.ref b144), (.ref b144)])) _
        refine XS.iconst X162.here hx rfl (hb hby own_d9_280) ?_
        show Steps p.tables e below (T162.setTop (mkF m 281 #[.val (.ref ar), .val (.int n1)] [(.int 4), (.ref ar), (.int 4), (.ref b146), (.ref b146), (.ref b144), (.ref b144)])) _
        refine X162.caload hx (j := (4 : Int32)) (v := (.int c4)) (by rw [e162]; exact Ar164.1) (State.isArrayOf_alike hZ.alike Ar164.2.1) Ar164.2.2 hin164 (H164.at hin164 rfl) (g := (mkF m 281 #[.val (.ref ar), .val (.int n1)] [(.int 4), (.ref ar), (.int 4), (.ref b146), (.ref b146), (.ref b144), (.ref b144)])) rfl rfl (hb hby own_d9_281) _ ?_
        show Steps p.tables e below (T162.setTop (mkF m 282 #[.val (.ref ar), .val (.int n1)] [(.int c4), (.int 4), (.ref b146), (.ref b146), (.ref b144), (.ref b144)])) _
        refine st166 _ ?_
        show Steps p.tables e below (T166.setTop (mkF m 283 #[.val (.ref ar), .val (.int n1)] [(.ref b146), (.ref b144), (.ref b144)])) _
        refine XS.dup X166.here hx rfl (hb hby own_d9_283) rfl rfl ?_
        show Steps p.tables e below (T166.setTop (mkF m 284 #[.val (.ref ar), .val (.int n1)] [(.ref b146), (.ref b146), (.ref b144), (.ref b144)])) _
        refine XS.iconst X166.here hx rfl (hb hby own_d9_284) ?_
        show Steps p.tables e below (T166.setTop (mkF m 285 #[.val (.ref ar), .val (.int n1)] [(.int 5), (.ref b146), (.ref b146), (.ref b144), (.ref b144)])) _
        refine XS.aloadN X166.here hx rfl (hb hby own_d9_285) rfl rfl ?_
        show Steps p.tables e below (T166.setTop (mkF m 286 #[.val (.ref ar), .val (.int n1)] [(.ref ar), (.int 5), (.ref b146), (.ref b146), (.ref b144), (.ref b144)])) _
        refine XS.iconst X166.here hx rfl (hb hby own_d9_286) ?_
        show Steps p.tables e below (T166.setTop (mkF m 287 #[.val (.ref ar), .val (.int n1)] [(.int 5), (.ref ar), (.int 5), (.ref b146), (.ref b146), (.ref b144), (.ref b144)])) _
        refine X166.caload hx (j := (5 : Int32)) (v := (.int c5)) (by rw [e166]; exact Ar168.1) (State.isArrayOf_alike hZ.alike Ar168.2.1) Ar168.2.2 hin168 (H168.at hin168 rfl) (g := (mkF m 287 #[.val (.ref ar), .val (.int n1)] [(.int 5), (.ref ar), (.int 5), (.ref b146), (.ref b146), (.ref b144), (.ref b144)])) rfl rfl (hb hby own_d9_287) _ ?_
        show Steps p.tables e below (T166.setTop (mkF m 288 #[.val (.ref ar), .val (.int n1)] [(.int c5), (.int 5), (.ref b146), (.ref b146), (.ref b144), (.ref b144)])) _
        refine st170 _ ?_
        show Steps p.tables e below (T170.setTop (mkF m 289 #[.val (.ref ar), .val (.int n1)] [(.ref b146), (.ref b144), (.ref b144)])) _
        refine XS.dup X170.here hx rfl (hb hby own_d9_289) rfl rfl ?_
        show Steps p.tables e below (T170.setTop (mkF m 290 #[.val (.ref ar), .val (.int n1)] [(.ref b146), (.ref b146), (.ref b144), (.ref b144)])) _
        refine XS.bipush X170.here hx rfl (hb hby own_d9_290) ?_
        show Steps p.tables e below (T170.setTop (mkF m 292 #[.val (.ref ar), .val (.int n1)] [(.int 6), (.ref b146), (.ref b146), (.ref b144), (.ref b144)])) _
        refine XS.aloadN X170.here hx rfl (hb hby own_d9_292) rfl rfl ?_
        show Steps p.tables e below (T170.setTop (mkF m 293 #[.val (.ref ar), .val (.int n1)] [(.ref ar), (.int 6), (.ref b146), (.ref b146), (.ref b144), (.ref b144)])) _
        refine XS.bipush X170.here hx rfl (hb hby own_d9_293) ?_
        show Steps p.tables e below (T170.setTop (mkF m 295 #[.val (.ref ar), .val (.int n1)] [(.int 6), (.ref ar), (.int 6), (.ref b146), (.ref b146), (.ref b144), (.ref b144)])) _
        refine X170.caload hx (j := (6 : Int32)) (v := (.int c6)) (by rw [e170]; exact Ar172.1) (State.isArrayOf_alike hZ.alike Ar172.2.1) Ar172.2.2 hin172 (H172.at hin172 rfl) (g := (mkF m 295 #[.val (.ref ar), .val (.int n1)] [(.int 6), (.ref ar), (.int 6), (.ref b146), (.ref b146), (.ref b144), (.ref b144)])) rfl rfl (hb hby own_d9_295) _ ?_
        show Steps p.tables e below (T170.setTop (mkF m 296 #[.val (.ref ar), .val (.int n1)] [(.int c6), (.int 6), (.ref b146), (.ref b146), (.ref b144), (.ref b144)])) _
        refine st174 _ ?_
        show Steps p.tables e below (T174.setTop (mkF m 297 #[.val (.ref ar), .val (.int n1)] [(.ref b146), (.ref b144), (.ref b144)])) _
        refine st176.trans ?_
        show Steps p.tables e below (T176.setTop (mkF m 300 #[.val (.ref ar), .val (.int n1)] [(.ref b144)])) _
        exact retOut X176 hx (t := (.object "java/lang/String")) Bd.returns rfl (Or.inr (Or.inr (Or.inr (Or.inr ⟨rfl, rfl, rfl⟩)))) (hb hby own_d9_300) hr
      have hnk : nn = 7 := own_nk hnn hc143 hn13 (by decide)
      · show own_Q_own_prefix Z ar n1 Ts cz ka AA nn h0 n0 _ T176.heap _
        subst hnk
        exact ⟨b144, b176, kb176, rfl, N176, KP, Ee176, Fc176, Fv176, by rw [eA]; exact VB176⟩
  have pre178 : ∀ t, Steps p.tables e below (s₁.setTop (mkF m 304 #[.val (.ref ar), .val (.int n1)] [(.int 8), (.int n1)])) t → Steps p.tables e below (s₁.setTop (entryFrame m #[(.ref ar), (.int n1)] 2)) t := fun t k => pre142 t (by
    refine XS.icmpYes X0.here hx rfl (pc0 := 242) (pc' := 301) rfl (hb hby own_d9_242) rfl (feq hc143).2 (by decide) (by decide) ?_
    show Steps p.tables e below (s₁.setTop (mkF m 301 #[.val (.ref ar), .val (.int n1)] [])) _
    refine XS.iloadN X0.here hx rfl (hb hby own_d9_301) rfl ?_
    show Steps p.tables e below (s₁.setTop (mkF m 302 #[.val (.ref ar), .val (.int n1)] [(.int n1)])) _
    refine XS.bipush X0.here hx rfl (hb hby own_d9_302) ?_
    show Steps p.tables e below (s₁.setTop (mkF m 304 #[.val (.ref ar), .val (.int n1)] [(.int 8), (.int n1)])) _
    exact k)
  by_cases hc179 : n1 = (8 : Int32)
  · skip
    as_aux_lemma =>
      obtain ⟨T180, h180, X180, e180, E180, A180, D180, U180, st180⟩ := newO X0 hx hZ hown (hw _ (own_m (i := 54) rfl)) (hw _ (own_m (i := 2) rfl)) (hw _ (own_m (i := 1) rfl)) e0 (g := (mkF m 307 #[.val (.ref ar), .val (.int n1)] [])) rfl (hb hby own_d9_307) (by decide) (by decide)
      obtain ⟨b180, g180⟩ : ∃ z, z = h0.size := ⟨_, rfl⟩
      rw [← g180] at A180 D180 U180 st180
      have g_b180 : n0 ≤ b180 := Nat.le_trans Z0 (Nat.le_of_eq g180.symm)
      have sz_b180 : h0.size ≤ b180 := Nat.le_trans KP.1 (Nat.le_of_eq g180.symm)
      have ne_ar_b180 : ar ≠ b180 := Nat.ne_of_lt (Nat.lt_of_lt_of_le Va.lt (Nat.le_of_eq g180.symm))
      have O := O.ext E180
      have Va := Va.ext E180
      have hk := Nat.le_trans hk E180.1
      have Z181 : n0 ≤ h180.size := Nat.le_trans Z0 E180.1
      have KP := KP.ext E180
      have F_value_b180 : Fld Z h180 b180 "java/lang/String" "value" "[B" .null := D180 (Or.inr (hw _ (own_m (i := 4) rfl))) (ty := (.array .byte)) (by decide)
      have F_coder_b180 : Fld Z h180 b180 "java/lang/String" "coder" "B" (.int 0) := D180 (Or.inr (hw _ (own_m (i := 5) rfl))) (ty := .byte) (by decide)
      have E_b180 := A180
      obtain ⟨T182, h182, k182, X182, e182, E182, A182, st182⟩ := newP X180 hx hZ (hw _ (own_m (i := 24) rfl)) e180 (g := (mkF m 313 #[.val (.ref ar), .val (.int n1)] [(.int 8), (.ref b180), (.ref b180)])) rfl (hb hby own_d9_313) rfl (by decide) (cap := 8) (by decide) (by decide) (by decide) (by decide)
      obtain ⟨b182, g182⟩ : ∃ z, z = h180.size := ⟨_, rfl⟩
      rw [← g182] at A182 st182
      have g_b182 : n0 ≤ b182 := Nat.le_trans Z181 (Nat.le_of_eq g182.symm)
      have sz_b182 : h0.size ≤ b182 := Nat.le_trans KP.1 (Nat.le_of_eq g182.symm)
      have ne_ar_b182 : ar ≠ b182 := Nat.ne_of_lt (Nat.lt_of_lt_of_le Va.lt (Nat.le_of_eq g182.symm))
      have ne_b180_b182 : b180 ≠ b182 := Nat.ne_of_lt (Nat.lt_of_lt_of_le F_value_b180.lt (Nat.le_of_eq g182.symm))
      have O := O.ext E182
      have Va := Va.ext E182
      have F_value_b180 := F_value_b180.ext E182
      have F_coder_b180 := F_coder_b180.ext E182
      have E_b180 := E_b180.ext E182
      have hk := Nat.le_trans hk E182.1
      have Z183 : n0 ≤ h182.size := Nat.le_trans Z181 E182.1
      have KP := KP.ext E182
      have V_b182 : Arv Z h182 b182 k182 .char (8 : Int32) [(.int 0), (.int 0), (.int 0), (.int 0), (.int 0), (.int 0), (.int 0), (.int 0)] (.int 0) := (Arv.new A182 (by decide)).pad (pad_rep [] (.int 0) 8)
      obtain ⟨cl184, Ar184, q184, S184, M184, H184, G184⟩ := id Va
      have hin184 : ¬ ((0 : Int32) < 0 ∨ cl184.slots.size ≤ ((0 : Int32)).toNatClampNeg) := inb_of S184 ⟨by decide, by decide⟩
      obtain ⟨cl185, Ar185, q185, S185, M185, H185, G185⟩ := id V_b182
      have hin185 : ¬ ((0 : Int32) < 0 ∨ cl185.slots.size ≤ ((0 : Int32)).toNatClampNeg) := inb_of S185 ⟨by decide, by decide⟩
      obtain ⟨T186, h186, X186, e186, W186, st186⟩ := stC X182 hx hZ e182 Ar185 (j := (0 : Int32)) hin185 (g := (mkF m 320 #[.val (.ref ar), .val (.int n1)] [(.int c0), (.int 0), (.ref b182), (.ref b182), (.ref b180), (.ref b180)])) rfl rfl (hb hby own_d9_320)
      have O := O.wr W186 g_b182
      have Va := Va.other W186 ne_ar_b182
      have F_value_b180 := F_value_b180.other W186 (Or.inl ne_b180_b182)
      have F_coder_b180 := F_coder_b180.other W186 (Or.inl ne_b180_b182)
      have E_b180 := E_b180.wr W186
      have hk := Nat.le_trans hk (Keep.of_wr W186).1
      have Z187 : n0 ≤ h186.size := Nat.le_trans Z183 (Keep.of_wr W186).1
      have KP := KP.wr W186 (Or.inr sz_b182)
      have V_b182 := Arv.set Ar185 q185 S185 M185 H185 G185 (fits_nar_char _) W186 0 rfl (Nat.le_of_ble_eq_true rfl)
      have V_b182 : Arv Z h186 b182 k182 .char (8 : Int32) [(.int c0), (.int 0), (.int 0), (.int 0), (.int 0), (.int 0), (.int 0), (.int 0)] (.int 0) := by have q := V_b182; simp only [nc0, List.set] at q; exact q
      have N186 := Fr.snoc X186 N0 g_b182
      obtain ⟨cl188, Ar188, q188, S188, M188, H188, G188⟩ := id Va
      have hin188 : ¬ ((1 : Int32) < 0 ∨ cl188.slots.size ≤ ((1 : Int32)).toNatClampNeg) := inb_of S188 ⟨by decide, by decide⟩
      obtain ⟨cl189, Ar189, q189, S189, M189, H189, G189⟩ := id V_b182
      have hin189 : ¬ ((1 : Int32) < 0 ∨ cl189.slots.size ≤ ((1 : Int32)).toNatClampNeg) := inb_of S189 ⟨by decide, by decide⟩
      obtain ⟨T190, h190, X190, e190, W190, st190⟩ := stC X186 hx hZ e186 Ar189 (j := (1 : Int32)) hin189 (g := (mkF m 326 #[.val (.ref ar), .val (.int n1)] [(.int c1), (.int 1), (.ref b182), (.ref b182), (.ref b180), (.ref b180)])) rfl rfl (hb hby own_d9_326)
      have O := O.wr W190 g_b182
      have Va := Va.other W190 ne_ar_b182
      have F_value_b180 := F_value_b180.other W190 (Or.inl ne_b180_b182)
      have F_coder_b180 := F_coder_b180.other W190 (Or.inl ne_b180_b182)
      have E_b180 := E_b180.wr W190
      have hk := Nat.le_trans hk (Keep.of_wr W190).1
      have Z191 : n0 ≤ h190.size := Nat.le_trans Z187 (Keep.of_wr W190).1
      have KP := KP.wr W190 (Or.inr sz_b182)
      have V_b182 := Arv.set Ar189 q189 S189 M189 H189 G189 (fits_nar_char _) W190 1 rfl (Nat.le_of_ble_eq_true rfl)
      have V_b182 : Arv Z h190 b182 k182 .char (8 : Int32) [(.int c0), (.int c1), (.int 0), (.int 0), (.int 0), (.int 0), (.int 0), (.int 0)] (.int 0) := by have q := V_b182; simp only [nc1, List.set] at q; exact q
      have N190 := Fr.snoc X190 N186 g_b182
      obtain ⟨cl192, Ar192, q192, S192, M192, H192, G192⟩ := id Va
      have hin192 : ¬ ((2 : Int32) < 0 ∨ cl192.slots.size ≤ ((2 : Int32)).toNatClampNeg) := inb_of S192 ⟨by decide, by decide⟩
      obtain ⟨cl193, Ar193, q193, S193, M193, H193, G193⟩ := id V_b182
      have hin193 : ¬ ((2 : Int32) < 0 ∨ cl193.slots.size ≤ ((2 : Int32)).toNatClampNeg) := inb_of S193 ⟨by decide, by decide⟩
      obtain ⟨T194, h194, X194, e194, W194, st194⟩ := stC X190 hx hZ e190 Ar193 (j := (2 : Int32)) hin193 (g := (mkF m 332 #[.val (.ref ar), .val (.int n1)] [(.int c2), (.int 2), (.ref b182), (.ref b182), (.ref b180), (.ref b180)])) rfl rfl (hb hby own_d9_332)
      have O := O.wr W194 g_b182
      have Va := Va.other W194 ne_ar_b182
      have F_value_b180 := F_value_b180.other W194 (Or.inl ne_b180_b182)
      have F_coder_b180 := F_coder_b180.other W194 (Or.inl ne_b180_b182)
      have E_b180 := E_b180.wr W194
      have hk := Nat.le_trans hk (Keep.of_wr W194).1
      have Z195 : n0 ≤ h194.size := Nat.le_trans Z191 (Keep.of_wr W194).1
      have KP := KP.wr W194 (Or.inr sz_b182)
      have V_b182 := Arv.set Ar193 q193 S193 M193 H193 G193 (fits_nar_char _) W194 2 rfl (Nat.le_of_ble_eq_true rfl)
      have V_b182 : Arv Z h194 b182 k182 .char (8 : Int32) [(.int c0), (.int c1), (.int c2), (.int 0), (.int 0), (.int 0), (.int 0), (.int 0)] (.int 0) := by have q := V_b182; simp only [nc2, List.set] at q; exact q
      have N194 := Fr.snoc X194 N190 g_b182
      obtain ⟨cl196, Ar196, q196, S196, M196, H196, G196⟩ := id Va
      have hin196 : ¬ ((3 : Int32) < 0 ∨ cl196.slots.size ≤ ((3 : Int32)).toNatClampNeg) := inb_of S196 ⟨by decide, by decide⟩
      obtain ⟨cl197, Ar197, q197, S197, M197, H197, G197⟩ := id V_b182
      have hin197 : ¬ ((3 : Int32) < 0 ∨ cl197.slots.size ≤ ((3 : Int32)).toNatClampNeg) := inb_of S197 ⟨by decide, by decide⟩
      obtain ⟨T198, h198, X198, e198, W198, st198⟩ := stC X194 hx hZ e194 Ar197 (j := (3 : Int32)) hin197 (g := (mkF m 338 #[.val (.ref ar), .val (.int n1)] [(.int c3), (.int 3), (.ref b182), (.ref b182), (.ref b180), (.ref b180)])) rfl rfl (hb hby own_d9_338)
      have O := O.wr W198 g_b182
      have Va := Va.other W198 ne_ar_b182
      have F_value_b180 := F_value_b180.other W198 (Or.inl ne_b180_b182)
      have F_coder_b180 := F_coder_b180.other W198 (Or.inl ne_b180_b182)
      have E_b180 := E_b180.wr W198
      have hk := Nat.le_trans hk (Keep.of_wr W198).1
      have Z199 : n0 ≤ h198.size := Nat.le_trans Z195 (Keep.of_wr W198).1
      have KP := KP.wr W198 (Or.inr sz_b182)
      have V_b182 := Arv.set Ar197 q197 S197 M197 H197 G197 (fits_nar_char _) W198 3 rfl (Nat.le_of_ble_eq_true rfl)
      have V_b182 : Arv Z h198 b182 k182 .char (8 : Int32) [(.int c0), (.int c1), (.int c2), (.int c3), (.int 0), (.int 0), (.int 0), (.int 0)] (.int 0) := by have q := V_b182; simp only [nc3, List.set] at q; exact q
      have N198 := Fr.snoc X198 N194 g_b182
      obtain ⟨cl200, Ar200, q200, S200, M200, H200, G200⟩ := id Va
      have hin200 : ¬ ((4 : Int32) < 0 ∨ cl200.slots.size ≤ ((4 : Int32)).toNatClampNeg) := inb_of S200 ⟨by decide, by decide⟩
      obtain ⟨cl201, Ar201, q201, S201, M201, H201, G201⟩ := id V_b182
      have hin201 : ¬ ((4 : Int32) < 0 ∨ cl201.slots.size ≤ ((4 : Int32)).toNatClampNeg) := inb_of S201 ⟨by decide, by decide⟩
      obtain ⟨T202, h202, X202, e202, W202, st202⟩ := stC X198 hx hZ e198 Ar201 (j := (4 : Int32)) hin201 (g := (mkF m 344 #[.val (.ref ar), .val (.int n1)] [(.int c4), (.int 4), (.ref b182), (.ref b182), (.ref b180), (.ref b180)])) rfl rfl (hb hby own_d9_344)
      have O := O.wr W202 g_b182
      have Va := Va.other W202 ne_ar_b182
      have F_value_b180 := F_value_b180.other W202 (Or.inl ne_b180_b182)
      have F_coder_b180 := F_coder_b180.other W202 (Or.inl ne_b180_b182)
      have E_b180 := E_b180.wr W202
      have hk := Nat.le_trans hk (Keep.of_wr W202).1
      have Z203 : n0 ≤ h202.size := Nat.le_trans Z199 (Keep.of_wr W202).1
      have KP := KP.wr W202 (Or.inr sz_b182)
      have V_b182 := Arv.set Ar201 q201 S201 M201 H201 G201 (fits_nar_char _) W202 4 rfl (Nat.le_of_ble_eq_true rfl)
      have V_b182 : Arv Z h202 b182 k182 .char (8 : Int32) [(.int c0), (.int c1), (.int c2), (.int c3), (.int c4), (.int 0), (.int 0), (.int 0)] (.int 0) := by have q := V_b182; simp only [nc4, List.set] at q; exact q
      have N202 := Fr.snoc X202 N198 g_b182
      obtain ⟨cl204, Ar204, q204, S204, M204, H204, G204⟩ := id Va
      have hin204 : ¬ ((5 : Int32) < 0 ∨ cl204.slots.size ≤ ((5 : Int32)).toNatClampNeg) := inb_of S204 ⟨by decide, by decide⟩
      obtain ⟨cl205, Ar205, q205, S205, M205, H205, G205⟩ := id V_b182
      have hin205 : ¬ ((5 : Int32) < 0 ∨ cl205.slots.size ≤ ((5 : Int32)).toNatClampNeg) := inb_of S205 ⟨by decide, by decide⟩
      obtain ⟨T206, h206, X206, e206, W206, st206⟩ := stC X202 hx hZ e202 Ar205 (j := (5 : Int32)) hin205 (g := (mkF m 350 #[.val (.ref ar), .val (.int n1)] [(.int c5), (.int 5), (.ref b182), (.ref b182), (.ref b180), (.ref b180)])) rfl rfl (hb hby own_d9_350)
      have O := O.wr W206 g_b182
      have Va := Va.other W206 ne_ar_b182
      have F_value_b180 := F_value_b180.other W206 (Or.inl ne_b180_b182)
      have F_coder_b180 := F_coder_b180.other W206 (Or.inl ne_b180_b182)
      have E_b180 := E_b180.wr W206
      have hk := Nat.le_trans hk (Keep.of_wr W206).1
      have Z207 : n0 ≤ h206.size := Nat.le_trans Z203 (Keep.of_wr W206).1
      have KP := KP.wr W206 (Or.inr sz_b182)
      have V_b182 := Arv.set Ar205 q205 S205 M205 H205 G205 (fits_nar_char _) W206 5 rfl (Nat.le_of_ble_eq_true rfl)
      have V_b182 : Arv Z h206 b182 k182 .char (8 : Int32) [(.int c0), (.int c1), (.int c2), (.int c3), (.int c4), (.int c5), (.int 0), (.int 0)] (.int 0) := by have q := V_b182; simp only [nc5, List.set] at q; exact q
      have N206 := Fr.snoc X206 N202 g_b182
      obtain ⟨cl208, Ar208, q208, S208, M208, H208, G208⟩ := id Va
      have hin208 : ¬ ((6 : Int32) < 0 ∨ cl208.slots.size ≤ ((6 : Int32)).toNatClampNeg) := inb_of S208 ⟨by decide, by decide⟩
      obtain ⟨cl209, Ar209, q209, S209, M209, H209, G209⟩ := id V_b182
      have hin209 : ¬ ((6 : Int32) < 0 ∨ cl209.slots.size ≤ ((6 : Int32)).toNatClampNeg) := inb_of S209 ⟨by decide, by decide⟩
      obtain ⟨T210, h210, X210, e210, W210, st210⟩ := stC X206 hx hZ e206 Ar209 (j := (6 : Int32)) hin209 (g := (mkF m 358 #[.val (.ref ar), .val (.int n1)] [(.int c6), (.int 6), (.ref b182), (.ref b182), (.ref b180), (.ref b180)])) rfl rfl (hb hby own_d9_358)
      have O := O.wr W210 g_b182
      have Va := Va.other W210 ne_ar_b182
      have F_value_b180 := F_value_b180.other W210 (Or.inl ne_b180_b182)
      have F_coder_b180 := F_coder_b180.other W210 (Or.inl ne_b180_b182)
      have E_b180 := E_b180.wr W210
      have hk := Nat.le_trans hk (Keep.of_wr W210).1
      have Z211 : n0 ≤ h210.size := Nat.le_trans Z207 (Keep.of_wr W210).1
      have KP := KP.wr W210 (Or.inr sz_b182)
      have V_b182 := Arv.set Ar209 q209 S209 M209 H209 G209 (fits_nar_char _) W210 6 rfl (Nat.le_of_ble_eq_true rfl)
      have V_b182 : Arv Z h210 b182 k182 .char (8 : Int32) [(.int c0), (.int c1), (.int c2), (.int c3), (.int c4), (.int c5), (.int c6), (.int 0)] (.int 0) := by have q := V_b182; simp only [nc6, List.set] at q; exact q
      have N210 := Fr.snoc X210 N206 g_b182
      obtain ⟨cl212, Ar212, q212, S212, M212, H212, G212⟩ := id Va
      have hin212 : ¬ ((7 : Int32) < 0 ∨ cl212.slots.size ≤ ((7 : Int32)).toNatClampNeg) := inb_of S212 ⟨by decide, by decide⟩
      obtain ⟨cl213, Ar213, q213, S213, M213, H213, G213⟩ := id V_b182
      have hin213 : ¬ ((7 : Int32) < 0 ∨ cl213.slots.size ≤ ((7 : Int32)).toNatClampNeg) := inb_of S213 ⟨by decide, by decide⟩
      obtain ⟨T214, h214, X214, e214, W214, st214⟩ := stC X210 hx hZ e210 Ar213 (j := (7 : Int32)) hin213 (g := (mkF m 366 #[.val (.ref ar), .val (.int n1)] [(.int c7), (.int 7), (.ref b182), (.ref b182), (.ref b180), (.ref b180)])) rfl rfl (hb hby own_d9_366)
      have O := O.wr W214 g_b182
      have Va := Va.other W214 ne_ar_b182
      have F_value_b180 := F_value_b180.other W214 (Or.inl ne_b180_b182)
      have F_coder_b180 := F_coder_b180.other W214 (Or.inl ne_b180_b182)
      have E_b180 := E_b180.wr W214
      have hk := Nat.le_trans hk (Keep.of_wr W214).1
      have Z215 : n0 ≤ h214.size := Nat.le_trans Z211 (Keep.of_wr W214).1
      have KP := KP.wr W214 (Or.inr sz_b182)
      have V_b182 := Arv.set Ar213 q213 S213 M213 H213 G213 (fits_nar_char _) W214 7 rfl (Nat.le_of_ble_eq_true rfl)
      have V_b182 : Arv Z h214 b182 k182 .char (8 : Int32) [(.int c0), (.int c1), (.int c2), (.int c3), (.int c4), (.int c5), (.int c6), (.int c7)] (.int 0) := by have q := V_b182; simp only [nc7, List.set] at q; exact q
      have N214 := Fr.snoc X214 N210 g_b182
      obtain ⟨_, _, ⟨T216, L216, k216, n216⟩, -, X216, ⟨Lc216, hQ216, l216, y216, z216⟩, st216⟩ := X214.specialBack hx (y := (⟨"java/lang/String", "<init>", "([C)V"⟩ : MethodName)) rfl hown (mvT hZ (hw _ (own_m (i := 55) rfl))) (mvT hZ (hw _ (own_m (i := 56) rfl))) (mvT hZ (hw _ (own_m (i := 57) rfl))) (by decide) (StrChars.Road.backV (W := 1) hZ (fun d hd => hw d ((by decide +kernel : ∀ d ∈ StrChars.Road.words, d ∈ tables_1) d hd)) (kI := 4) (hw _ (own_m (i := 2) rfl)) (cs := ([c0, c1, c2, c3, c4, c5, c6, c7] : List Int32)) (bs := List.map (fun c => c.toInt8.toInt32) ([c0, c1, c2, c3, c4, c5, c6, c7] : List Int32)) (n := 8) (n0 := n0) g_b180 Z215 E_b180 F_value_b180 F_coder_b180 V_b182 (S0.ext O.2) hcz rfl rfl (by decide) (by decide) (fun c hc => okA c (List.mem_of_mem_take (i := 8) hc)) rfl (by decide) (by decide)) (g := (mkF m 367 #[.val (.ref ar), .val (.int n1)] [(.ref b182), (.ref b180), (.ref b180)])) rfl (by rw [hml]; rfl) (Steps.refl _) (a := b180) (argsL := [(.ref b182)]) (rest := [(.ref b180)]) (lenOf own_pd4 rfl) rfl (by show 2 * 0 + _ ≤ _; exact Nat.le_of_eq rfl) (hb hby own_d9_367) (fun _ _ => ⟨rfl, e214, (by decide : 2 + 1 ≤ _), (by decide : 12 + 8 ≤ _)⟩)
      dsimp only [Pt.U, Pt.locs, Pt.cells, Pt.slots] at X216 l216 y216 z216 st216 hQ216
      subst l216 y216 z216
      obtain ⟨rfl, N216q, K216, Ee216, Fc216, b216, kb216, g1216, sz216, nx216, Fv216, VB216⟩ := hQ216
      have N216 := Fr.app N214 N216q
      have O := O.keep K216 (allS g_b180 all0)
      have E_b180 := E_b180.keep K216
      have V_b182 := V_b182.keep K216 (ninS (Ne.symm ne_b180_b182) nin0)
      have hk := Nat.le_trans hk K216.1
      have Z217 := Nat.le_trans Z215 K216.1
      have KP := KP.trans K216 (allS (Or.inr sz_b180) all0)
      obtain ⟨fs, hr, hrun, hended, hRW⟩ := X216.leaveW hS hk (v := some (.ref b180)) (fun h => by rw [Bd.returns] at h; cases h)
      refine ⟨_, _, pre178 _ ?_, hrun, hended, _, _, rfl, ?_, hRW.1, hRW.2.1, hRW.2.2.1, hRW.2.2.2.mono (by decide) (by decide)⟩
      · refine XS.icmpNo X0.here hx rfl (hb hby own_d9_304) rfl (teq hc179).2 ?_
        show Steps p.tables e below (s₁.setTop (mkF m 307 #[.val (.ref ar), .val (.int n1)] [])) _
        refine st180 _ ?_
        show Steps p.tables e below (T180.setTop (mkF m 310 #[.val (.ref ar), .val (.int n1)] [(.ref b180)])) _
        refine XS.dup X180.here hx rfl (hb hby own_d9_310) rfl rfl ?_
        show Steps p.tables e below (T180.setTop (mkF m 311 #[.val (.ref ar), .val (.int n1)] [(.ref b180), (.ref b180)])) _
        refine XS.bipush X180.here hx rfl (hb hby own_d9_311) ?_
        show Steps p.tables e below (T180.setTop (mkF m 313 #[.val (.ref ar), .val (.int n1)] [(.int 8), (.ref b180), (.ref b180)])) _
        refine st182 _ ?_
        show Steps p.tables e below (T182.setTop (mkF m 315 #[.val (.ref ar), .val (.int n1)] [(.ref b182), (.ref b180), (.ref b180)])) _
        refine XS.dup X182.here hx rfl (hb hby own_d9_315) rfl rfl ?_
        show Steps p.tables e below (T182.setTop (mkF m 316 #[.val (.ref ar), .val (.int n1)] [(.ref b182), (.ref b182), (.ref b180), (.ref b180)])) _
        refine XS.iconst X182.here hx rfl (hb hby own_d9_316) ?_
        show Steps p.tables e below (T182.setTop (mkF m 317 #[.val (.ref ar), .val (.int n1)] [(.int 0), (.ref b182), (.ref b182), (.ref b180), (.ref b180)])) _
        refine XS.aloadN X182.here hx rfl (hb hby own_d9_317) rfl rfl ?_
        show Steps p.tables e below (T182.setTop (mkF m 318 #[.val (.ref ar), .val (.int n1)] [(.ref ar), (.int 0), (.ref b182), (.ref b182), (.ref b180), (.ref b180)])) _
        refine XS.iconst X182.here hx rfl (hb hby own_d9_318) ?_
        show Steps p.tables e below (T182.setTop (mkF m 319 #[.val (.ref ar), .val (.int n1)] [(.int 0), (.ref ar), (.int 0), (.ref b182), (.ref b182), (.ref b180), (.ref b180)])) _
        refine X182.caload hx (j := (0 : Int32)) (v := (.int c0)) (by rw [e182]; exact Ar184.1) (State.isArrayOf_alike hZ.alike Ar184.2.1) Ar184.2.2 hin184 (H184.at hin184 rfl) (g := (mkF m 319 #[.val (.ref ar), .val (.int n1)] [(.int 0), (.ref ar), (.int 0), (.ref b182), (.ref b182), (.ref b180), (.ref b180)])) rfl rfl (hb hby own_d9_319) _ ?_
        show Steps p.tables e below (T182.setTop (mkF m 320 #[.val (.ref ar), .val (.int n1)] [(.int c0), (.int 0), (.ref b182), (.ref b182), (.ref b180), (.ref b180)])) _
        refine st186 _ ?_
        show Steps p.tables e below (T186.setTop (mkF m 321 #[.val (.ref ar), .val (.int n1)] [(.ref b182), (.ref b180), (.ref b180)])) _
        refine XS.dup X186.here hx rfl (hb hby own_d9_321) rfl rfl ?_
        show Steps p.tables e below (T186.setTop (mkF m 322 #[.val (.ref ar), .val (.int n1)] [(.ref b182), (.ref b182), (.ref b180), (.ref b180)])) _
        refine XS.iconst X186.here hx rfl (hb hby own_d9_322) ?_
        show Steps p.tables e below (T186.setTop (mkF m 323 #[.val (.ref ar), .val (.int n1)] [(.int 1), (.ref b182), (.ref b182), (.ref b180), (.ref b180)])) _
        refine XS.aloadN X186.here hx rfl (hb hby own_d9_323) rfl rfl ?_
        show Steps p.tables e below (T186.setTop (mkF m 324 #[.val (.ref ar), .val (.int n1)] [(.ref ar), (.int 1), (.ref b182), (.ref b182), (.ref b180), (.ref b180)])) _
        refine XS.iconst X186.here hx rfl (hb hby own_d9_324) ?_
        show Steps p.tables e below (T186.setTop (mkF m 325 #[.val (.ref ar), .val (.int n1)] [(.int 1), (.ref ar), (.int 1), (.ref b182), (.ref b182), (.ref b180), (.ref b180)])) _
        refine X186.caload hx (j := (1 : Int32)) (v := (.int c1)) (by rw [e186]; exact Ar188.1) (State.isArrayOf_alike hZ.alike Ar188.2.1) Ar188.2.2 hin188 (H188.at hin188 rfl) (g := (mkF m 325 #[.val (.ref ar), .val (.int n1)] [(.int 1), (.ref ar), (.int 1), (.ref b182), (.ref b182), (.ref b180), (.ref b180)])) rfl rfl (hb hby own_d9_325) _ ?_
        show Steps p.tables e below (T186.setTop (mkF m 326 #[.val (.ref ar), .val (.int n1)] [(.int c1), (.int 1), (.ref b182), (.ref b182), (.ref b180), (.ref b180)])) _
        refine st190 _ ?_
        show Steps p.tables e below (T190.setTop (mkF m 327 #[.val (.ref ar), .val (.int n1)] [(.ref b182), (.ref b180), (.ref b180)])) _
        refine XS.dup X190.here hx rfl (hb hby own_d9_327) rfl rfl ?_
        show Steps p.tables e below (T190.setTop (mkF m 328 #[.val (.ref ar), .val (.int n1)] [(.ref b182), (.ref b182), (.ref b180), (.ref b180)])) _
        refine XS.iconst X190.here hx rfl (hb hby own_d9_328) ?_
        show Steps p.tables e below (T190.setTop (mkF m 329 #[.val (.ref ar), .val (.int n1)] [(.int 2), (.ref b182), (.ref b182), (.ref b180), (.ref b180)])) _
        refine XS.aloadN X190.here hx rfl (hb hby own_d9_329) rfl rfl ?_
        show Steps p.tables e below (T190.setTop (mkF m 330 #[.val (.ref ar), .val (.int n1)] [(.ref ar), (.int 2), (.ref b182), (.ref b182), (.ref b180), (.ref b180)])) _
        refine XS.iconst X190.here hx rfl (hb hby own_d9_330) ?_
        show Steps p.tables e below (T190.setTop (mkF m 331 #[.val (.ref ar), .val (.int n1)] [(.int 2), (.ref ar), (.int 2), (.ref b182), (.ref b182), (.ref b180), (.ref b180)])) _
        refine X190.caload hx (j := (2 : Int32)) (v := (.int c2)) (by rw [e190]; exact Ar192.1) (State.isArrayOf_alike hZ.alike Ar192.2.1) Ar192.2.2 hin192 (H192.at hin192 rfl) (g := (mkF m 331 #[.val (.ref ar), .val (.int n1)] [(.int 2), (.ref ar), (.int 2), (.ref b182), (.ref b182), (.ref b180), (.ref b180)])) rfl rfl (hb hby own_d9_331) _ ?_
        show Steps p.tables e below (T190.setTop (mkF m 332 #[.val (.ref ar), .val (.int n1)] [(.int c2), (.int 2), (.ref b182), (.ref b182), (.ref b180), (.ref b180)])) _
        refine st194 _ ?_
        show Steps p.tables e below (T194.setTop (mkF m 333 #[.val (.ref ar), .val (.int n1)] [(.ref b182), (.ref b180), (.ref b180)])) _
        refine XS.dup X194.here hx rfl (hb hby own_d9_333) rfl rfl ?_
        show Steps p.tables e below (T194.setTop (mkF m 334 #[.val (.ref ar), .val (.int n1)] [(.ref b182), (.ref b182), (.ref b180), (.ref b180)])) _
        refine XS.iconst X194.here hx rfl (hb hby own_d9_334) ?_
        show Steps p.tables e below (T194.setTop (mkF m 335 #[.val (.ref ar), .val (.int n1)] [(.int 3), (.ref b182), (.ref b182), (.ref b180), (.ref b180)])) _
        refine XS.aloadN X194.here hx rfl (hb hby own_d9_335) rfl rfl ?_
        show Steps p.tables e below (T194.setTop (mkF m 336 #[.val (.ref ar), .val (.int n1)] [(.ref ar), (.int 3), (.ref b182), (.ref b182), (.ref b180), (.ref b180)])) _
        refine XS.iconst X194.here hx rfl (hb hby own_d9_336) ?_
        show Steps p.tables e below (T194.setTop (mkF m 337 #[.val (.ref ar), .val (.int n1)] [(.int 3), (.ref ar), (.int 3), (.ref b182), (.ref b182), (.ref b180), (.ref b180)])) _
        refine X194.caload hx (j := (3 : Int32)) (v := (.int c3)) (by rw [e194]; exact Ar196.1) (State.isArrayOf_alike hZ.alike Ar196.2.1) Ar196.2.2 hin196 (H196.at hin196 rfl) (g := (mkF m 337 #[.val (.ref ar), .val (.int n1)] [(.int 3), (.ref ar), (.int 3), (.ref b182), (.ref b182), (.ref b180), (.ref b180)])) rfl rfl (hb hby own_d9_337) _ ?_
        show Steps p.tables e below (T194.setTop (mkF m 338 #[.val (.ref ar), .val (.int n1)] [(.int c3), (.int 3), (.ref b182), (.ref b182), (.ref b180), (.ref b180)])) _
        refine st198 _ ?_
        show Steps p.tables e below (T198.setTop (mkF m 339 #[.val (.ref ar), .val (.int n1)] [(.ref b182), (.ref b180), (.ref b180)])) _
        refine XS.dup X198.here hx rfl (hb hby own_d9_339) rfl rfl ?_
        show Steps p.tables e below (T198.setTop (mkF m 340 #[.val (.ref ar), .val (.int n1)] [(.ref b182), (.ref b182), (.ref b180), (.ref b180)])) _
        refine XS.iconst X198.here hx rfl (hb hby own_d9_340) ?_
        show Steps p.tables e below (T198.setTop (mkF m 341 #[.val (.ref ar), .val (.int n1)] [(.int 4), (.ref b182), (.ref b182), (.ref b180), (.ref b180)])) _
        refine XS.aloadN X198.here hx rfl (hb hby own_d9_341) rfl rfl ?_
        show Steps p.tables e below (T198.setTop (mkF m 342 #[.val (.ref ar), .val (.int n1)] [(.ref ar), (.int 4), (.ref b182), (.ref b182), (.ref b180), (.ref b180)])) _
        refine XS.iconst X198.here hx rfl (hb hby own_d9_342) ?_
        show Steps p.tables e below (T198.setTop (mkF m 343 #[.val (.ref ar), .val (.int n1)] [(.int 4), (.ref ar), (.int 4), (.ref b182), (.ref b182), (.ref b180), (.ref b180)])) _
        refine X198.caload hx (j := (4 : Int32)) (v := (.int c4)) (by rw [e198]; exact Ar200.1) (State.isArrayOf_alike hZ.alike Ar200.2.1) Ar200.2.2 hin200 (H200.at hin200 rfl) (g := (mkF m 343 #[.val (.ref ar), .val (.int n1)] [(.int 4), (.ref ar), (.int 4), (.ref b182), (.ref b182), (.ref b180), (.ref b180)])) rfl rfl (hb hby own_d9_343) _ ?_
        show Steps p.tables e below (T198.setTop (mkF m 344 #[.val (.ref ar), .val (.int n1)] [(.int c4), (.int 4), (.ref b182), (.ref b182), (.ref b180), (.ref b180)])) _
        refine st202 _ ?_
        show Steps p.tables e below (T202.setTop (mkF m 345 #[.val (.ref ar), .val (.int n1)] [(.ref b182), (.ref b180), (.ref b180)])) _
        refine XS.dup X202.here hx rfl (hb hby own_d9_345) rfl rfl ?_
        show Steps p.tables e below (T202.setTop (mkF m 346 #[.val (.ref ar), .val (.int n1)] [(.ref b182), (.ref b182), (.ref b180), (.ref b180)])) _
        refine XS.iconst X202.here hx rfl (hb hby own_d9_346) ?_
        show Steps p.tables e below (T202.setTop (mkF m 347 #[.val (.ref ar), .val (.int n1)] [(.int 5), (.ref b182), (.ref b182), (.ref b180), (.ref b180)])) _
        refine XS.aloadN X202.here hx rfl (hb hby own_d9_347) rfl rfl ?_
        show Steps p.tables e below (T202.setTop (mkF m 348 #[.val (.ref ar), .val (.int n1)] [(.ref ar), (.int 5), (.ref b182), (.ref b182), (.ref b180), (.ref b180)])) _
        refine XS.iconst X202.here hx rfl (hb hby own_d9_348) ?_
        show Steps p.tables e below (T202.setTop (mkF m 349 #[.val (.ref ar), .val (.int n1)] [(.int 5), (.ref ar), (.int 5), (.ref b182), (.ref b182), (.ref b180), (.ref b180)])) _
        refine X202.caload hx (j := (5 : Int32)) (v := (.int c5)) (by rw [e202]; exact Ar204.1) (State.isArrayOf_alike hZ.alike Ar204.2.1) Ar204.2.2 hin204 (H204.at hin204 rfl) (g := (mkF m 349 #[.val (.ref ar), .val (.int n1)] [(.int 5), (.ref ar), (.int 5), (.ref b182), (.ref b182), (.ref b180), (.ref b180)])) rfl rfl (hb hby own_d9_349) _ ?_
        show Steps p.tables e below (T202.setTop (mkF m 350 #[.val (.ref ar), .val (.int n1)] [(.int c5), (.int 5), (.ref b182), (.ref b182), (.ref b180), (.ref b180)])) _
        refine st206 _ ?_
        show Steps p.tables e below (T206.setTop (mkF m 351 #[.val (.ref ar), .val (.int n1)] [(.ref b182), (.ref b180), (.ref b180)])) _
        refine XS.dup X206.here hx rfl (hb hby own_d9_351) rfl rfl ?_
        show Steps p.tables e below (T206.setTop (mkF m 352 #[.val (.ref ar), .val (.int n1)] [(.ref b182), (.ref b182), (.ref b180), (.ref b180)])) _
        refine XS.bipush X206.here hx rfl (hb hby own_d9_352) ?_
        show Steps p.tables e below (T206.setTop (mkF m 354 #[.val (.ref ar), .val (.int n1)] [(.int 6), (.ref b182), (.ref b182), (.ref b180), (.ref b180)])) _
        refine XS.aloadN X206.here hx rfl (hb hby own_d9_354) rfl rfl ?_
        show Steps p.tables e below (T206.setTop (mkF m 355 #[.val (.ref ar), .val (.int n1)] [(.ref ar), (.int 6), (.ref b182), (.ref b182), (.ref b180), (.ref b180)])) _
        refine XS.bipush X206.here hx rfl (hb hby own_d9_355) ?_
        show Steps p.tables e below (T206.setTop (mkF m 357 #[.val (.ref ar), .val (.int n1)] [(.int 6), (.ref ar), (.int 6), (.ref b182), (.ref b182), (.ref b180), (.ref b180)])) _
        refine X206.caload hx (j := (6 : Int32)) (v := (.int c6)) (by rw [e206]; exact Ar208.1) (State.isArrayOf_alike hZ.alike Ar208.2.1) Ar208.2.2 hin208 (H208.at hin208 rfl) (g := (mkF m 357 #[.val (.ref ar), .val (.int n1)] [(.int 6), (.ref ar), (.int 6), (.ref b182), (.ref b182), (.ref b180), (.ref b180)])) rfl rfl (hb hby own_d9_357) _ ?_
        show Steps p.tables e below (T206.setTop (mkF m 358 #[.val (.ref ar), .val (.int n1)] [(.int c6), (.int 6), (.ref b182), (.ref b182), (.ref b180), (.ref b180)])) _
        refine st210 _ ?_
        show Steps p.tables e below (T210.setTop (mkF m 359 #[.val (.ref ar), .val (.int n1)] [(.ref b182), (.ref b180), (.ref b180)])) _
        refine XS.dup X210.here hx rfl (hb hby own_d9_359) rfl rfl ?_
        show Steps p.tables e below (T210.setTop (mkF m 360 #[.val (.ref ar), .val (.int n1)] [(.ref b182), (.ref b182), (.ref b180), (.ref b180)])) _
        refine XS.bipush X210.here hx rfl (hb hby own_d9_360) ?_
        show Steps p.tables e below (T210.setTop (mkF m 362 #[.val (.ref ar), .val (.int n1)] [(.int 7), (.ref b182), (.ref b182), (.ref b180), (.ref b180)])) _
        refine XS.aloadN X210.here hx rfl (hb hby own_d9_362) rfl rfl ?_
        show Steps p.tables e below (T210.setTop (mkF m 363 #[.val (.ref ar), .val (.int n1)] [(.ref ar), (.int 7), (.ref b182), (.ref b182), (.ref b180), (.ref b180)])) _
        refine XS.bipush X210.here hx rfl (hb hby own_d9_363) ?_
        show Steps p.tables e below (T210.setTop (mkF m 365 #[.val (.ref ar), .val (.int n1)] [(.int 7), (.ref ar), (.int 7), (.ref b182), (.ref b182), (.ref b180), (.ref b180)])) _
        refine X210.caload hx (j := (7 : Int32)) (v := (.int c7)) (by rw [e210]; exact Ar212.1) (State.isArrayOf_alike hZ.alike Ar212.2.1) Ar212.2.2 hin212 (H212.at hin212 rfl) (g := (mkF m 365 #[.val (.ref ar), .val (.int n1)] [(.int 7), (.ref ar), (.int 7), (.ref b182), (.ref b182), (.ref b180), (.ref b180)])) rfl rfl (hb hby own_d9_365) _ ?_
        show Steps p.tables e below (T210.setTop (mkF m 366 #[.val (.ref ar), .val (.int n1)] [(.int c7), (.int 7), (.ref b182), (.ref b182), (.ref b180), (.ref b180)])) _
        refine st214 _ ?_
        show Steps p.tables e below (T214.setTop (mkF m 367 #[.val (.ref ar), .val (.int n1)] [(.ref b182), (.ref b180), (.ref b180)])) _
        refine st216.trans ?_
        show Steps p.tables e below (T216.setTop (mkF m 370 #[.val (.ref ar), .val (.int n1)] [(.ref b180)])) _
        exact retOut X216 hx (t := (.object "java/lang/String")) Bd.returns rfl (Or.inr (Or.inr (Or.inr (Or.inr ⟨rfl, rfl, rfl⟩)))) (hb hby own_d9_370) hr
      have hnk : nn = 8 := own_nk hnn hc179 hn13 (by decide)
      · show own_Q_own_prefix Z ar n1 Ts cz ka AA nn h0 n0 _ T216.heap _
        subst hnk
        exact ⟨b180, b216, kb216, rfl, N216, KP, Ee216, Fc216, Fv216, by rw [eA]; exact VB216⟩
  have pre218 : ∀ t, Steps p.tables e below (s₁.setTop (mkF m 374 #[.val (.ref ar), .val (.int n1)] [(.int 9), (.int n1)])) t → Steps p.tables e below (s₁.setTop (entryFrame m #[(.ref ar), (.int n1)] 2)) t := fun t k => pre178 t (by
    refine XS.icmpYes X0.here hx rfl (pc0 := 304) (pc' := 371) rfl (hb hby own_d9_304) rfl (feq hc179).2 (by decide) (by decide) ?_
    show Steps p.tables e below (s₁.setTop (mkF m 371 #[.val (.ref ar), .val (.int n1)] [])) _
    refine XS.iloadN X0.here hx rfl (hb hby own_d9_371) rfl ?_
    show Steps p.tables e below (s₁.setTop (mkF m 372 #[.val (.ref ar), .val (.int n1)] [(.int n1)])) _
    refine XS.bipush X0.here hx rfl (hb hby own_d9_372) ?_
    show Steps p.tables e below (s₁.setTop (mkF m 374 #[.val (.ref ar), .val (.int n1)] [(.int 9), (.int n1)])) _
    exact k)
  by_cases hc219 : n1 = (9 : Int32)
  · skip
    as_aux_lemma =>
      obtain ⟨T220, h220, X220, e220, E220, A220, D220, U220, st220⟩ := newO X0 hx hZ hown (hw _ (own_m (i := 54) rfl)) (hw _ (own_m (i := 2) rfl)) (hw _ (own_m (i := 1) rfl)) e0 (g := (mkF m 377 #[.val (.ref ar), .val (.int n1)] [])) rfl (hb hby own_d9_377) (by decide) (by decide)
      obtain ⟨b220, g220⟩ : ∃ z, z = h0.size := ⟨_, rfl⟩
      rw [← g220] at A220 D220 U220 st220
      have g_b220 : n0 ≤ b220 := Nat.le_trans Z0 (Nat.le_of_eq g220.symm)
      have sz_b220 : h0.size ≤ b220 := Nat.le_trans KP.1 (Nat.le_of_eq g220.symm)
      have ne_ar_b220 : ar ≠ b220 := Nat.ne_of_lt (Nat.lt_of_lt_of_le Va.lt (Nat.le_of_eq g220.symm))
      have O := O.ext E220
      have Va := Va.ext E220
      have hk := Nat.le_trans hk E220.1
      have Z221 : n0 ≤ h220.size := Nat.le_trans Z0 E220.1
      have KP := KP.ext E220
      have F_value_b220 : Fld Z h220 b220 "java/lang/String" "value" "[B" .null := D220 (Or.inr (hw _ (own_m (i := 4) rfl))) (ty := (.array .byte)) (by decide)
      have F_coder_b220 : Fld Z h220 b220 "java/lang/String" "coder" "B" (.int 0) := D220 (Or.inr (hw _ (own_m (i := 5) rfl))) (ty := .byte) (by decide)
      have E_b220 := A220
      obtain ⟨T222, h222, k222, X222, e222, E222, A222, st222⟩ := newP X220 hx hZ (hw _ (own_m (i := 24) rfl)) e220 (g := (mkF m 383 #[.val (.ref ar), .val (.int n1)] [(.int 9), (.ref b220), (.ref b220)])) rfl (hb hby own_d9_383) rfl (by decide) (cap := 9) (by decide) (by decide) (by decide) (by decide)
      obtain ⟨b222, g222⟩ : ∃ z, z = h220.size := ⟨_, rfl⟩
      rw [← g222] at A222 st222
      have g_b222 : n0 ≤ b222 := Nat.le_trans Z221 (Nat.le_of_eq g222.symm)
      have sz_b222 : h0.size ≤ b222 := Nat.le_trans KP.1 (Nat.le_of_eq g222.symm)
      have ne_ar_b222 : ar ≠ b222 := Nat.ne_of_lt (Nat.lt_of_lt_of_le Va.lt (Nat.le_of_eq g222.symm))
      have ne_b220_b222 : b220 ≠ b222 := Nat.ne_of_lt (Nat.lt_of_lt_of_le F_value_b220.lt (Nat.le_of_eq g222.symm))
      have O := O.ext E222
      have Va := Va.ext E222
      have F_value_b220 := F_value_b220.ext E222
      have F_coder_b220 := F_coder_b220.ext E222
      have E_b220 := E_b220.ext E222
      have hk := Nat.le_trans hk E222.1
      have Z223 : n0 ≤ h222.size := Nat.le_trans Z221 E222.1
      have KP := KP.ext E222
      have V_b222 : Arv Z h222 b222 k222 .char (9 : Int32) [(.int 0), (.int 0), (.int 0), (.int 0), (.int 0), (.int 0), (.int 0), (.int 0), (.int 0)] (.int 0) := (Arv.new A222 (by decide)).pad (pad_rep [] (.int 0) 9)
      obtain ⟨cl224, Ar224, q224, S224, M224, H224, G224⟩ := id Va
      have hin224 : ¬ ((0 : Int32) < 0 ∨ cl224.slots.size ≤ ((0 : Int32)).toNatClampNeg) := inb_of S224 ⟨by decide, by decide⟩
      obtain ⟨cl225, Ar225, q225, S225, M225, H225, G225⟩ := id V_b222
      have hin225 : ¬ ((0 : Int32) < 0 ∨ cl225.slots.size ≤ ((0 : Int32)).toNatClampNeg) := inb_of S225 ⟨by decide, by decide⟩
      obtain ⟨T226, h226, X226, e226, W226, st226⟩ := stC X222 hx hZ e222 Ar225 (j := (0 : Int32)) hin225 (g := (mkF m 390 #[.val (.ref ar), .val (.int n1)] [(.int c0), (.int 0), (.ref b222), (.ref b222), (.ref b220), (.ref b220)])) rfl rfl (hb hby own_d9_390)
      have O := O.wr W226 g_b222
      have Va := Va.other W226 ne_ar_b222
      have F_value_b220 := F_value_b220.other W226 (Or.inl ne_b220_b222)
      have F_coder_b220 := F_coder_b220.other W226 (Or.inl ne_b220_b222)
      have E_b220 := E_b220.wr W226
      have hk := Nat.le_trans hk (Keep.of_wr W226).1
      have Z227 : n0 ≤ h226.size := Nat.le_trans Z223 (Keep.of_wr W226).1
      have KP := KP.wr W226 (Or.inr sz_b222)
      have V_b222 := Arv.set Ar225 q225 S225 M225 H225 G225 (fits_nar_char _) W226 0 rfl (Nat.le_of_ble_eq_true rfl)
      have V_b222 : Arv Z h226 b222 k222 .char (9 : Int32) [(.int c0), (.int 0), (.int 0), (.int 0), (.int 0), (.int 0), (.int 0), (.int 0), (.int 0)] (.int 0) := by have q := V_b222; simp only [nc0, List.set] at q; exact q
      have N226 := Fr.snoc X226 N0 g_b222
      obtain ⟨cl228, Ar228, q228, S228, M228, H228, G228⟩ := id Va
      have hin228 : ¬ ((1 : Int32) < 0 ∨ cl228.slots.size ≤ ((1 : Int32)).toNatClampNeg) := inb_of S228 ⟨by decide, by decide⟩
      obtain ⟨cl229, Ar229, q229, S229, M229, H229, G229⟩ := id V_b222
      have hin229 : ¬ ((1 : Int32) < 0 ∨ cl229.slots.size ≤ ((1 : Int32)).toNatClampNeg) := inb_of S229 ⟨by decide, by decide⟩
      obtain ⟨T230, h230, X230, e230, W230, st230⟩ := stC X226 hx hZ e226 Ar229 (j := (1 : Int32)) hin229 (g := (mkF m 396 #[.val (.ref ar), .val (.int n1)] [(.int c1), (.int 1), (.ref b222), (.ref b222), (.ref b220), (.ref b220)])) rfl rfl (hb hby own_d9_396)
      have O := O.wr W230 g_b222
      have Va := Va.other W230 ne_ar_b222
      have F_value_b220 := F_value_b220.other W230 (Or.inl ne_b220_b222)
      have F_coder_b220 := F_coder_b220.other W230 (Or.inl ne_b220_b222)
      have E_b220 := E_b220.wr W230
      have hk := Nat.le_trans hk (Keep.of_wr W230).1
      have Z231 : n0 ≤ h230.size := Nat.le_trans Z227 (Keep.of_wr W230).1
      have KP := KP.wr W230 (Or.inr sz_b222)
      have V_b222 := Arv.set Ar229 q229 S229 M229 H229 G229 (fits_nar_char _) W230 1 rfl (Nat.le_of_ble_eq_true rfl)
      have V_b222 : Arv Z h230 b222 k222 .char (9 : Int32) [(.int c0), (.int c1), (.int 0), (.int 0), (.int 0), (.int 0), (.int 0), (.int 0), (.int 0)] (.int 0) := by have q := V_b222; simp only [nc1, List.set] at q; exact q
      have N230 := Fr.snoc X230 N226 g_b222
      obtain ⟨cl232, Ar232, q232, S232, M232, H232, G232⟩ := id Va
      have hin232 : ¬ ((2 : Int32) < 0 ∨ cl232.slots.size ≤ ((2 : Int32)).toNatClampNeg) := inb_of S232 ⟨by decide, by decide⟩
      obtain ⟨cl233, Ar233, q233, S233, M233, H233, G233⟩ := id V_b222
      have hin233 : ¬ ((2 : Int32) < 0 ∨ cl233.slots.size ≤ ((2 : Int32)).toNatClampNeg) := inb_of S233 ⟨by decide, by decide⟩
      obtain ⟨T234, h234, X234, e234, W234, st234⟩ := stC X230 hx hZ e230 Ar233 (j := (2 : Int32)) hin233 (g := (mkF m 402 #[.val (.ref ar), .val (.int n1)] [(.int c2), (.int 2), (.ref b222), (.ref b222), (.ref b220), (.ref b220)])) rfl rfl (hb hby own_d9_402)
      have O := O.wr W234 g_b222
      have Va := Va.other W234 ne_ar_b222
      have F_value_b220 := F_value_b220.other W234 (Or.inl ne_b220_b222)
      have F_coder_b220 := F_coder_b220.other W234 (Or.inl ne_b220_b222)
      have E_b220 := E_b220.wr W234
      have hk := Nat.le_trans hk (Keep.of_wr W234).1
      have Z235 : n0 ≤ h234.size := Nat.le_trans Z231 (Keep.of_wr W234).1
      have KP := KP.wr W234 (Or.inr sz_b222)
      have V_b222 := Arv.set Ar233 q233 S233 M233 H233 G233 (fits_nar_char _) W234 2 rfl (Nat.le_of_ble_eq_true rfl)
      have V_b222 : Arv Z h234 b222 k222 .char (9 : Int32) [(.int c0), (.int c1), (.int c2), (.int 0), (.int 0), (.int 0), (.int 0), (.int 0), (.int 0)] (.int 0) := by have q := V_b222; simp only [nc2, List.set] at q; exact q
      have N234 := Fr.snoc X234 N230 g_b222
      obtain ⟨cl236, Ar236, q236, S236, M236, H236, G236⟩ := id Va
      have hin236 : ¬ ((3 : Int32) < 0 ∨ cl236.slots.size ≤ ((3 : Int32)).toNatClampNeg) := inb_of S236 ⟨by decide, by decide⟩
      obtain ⟨cl237, Ar237, q237, S237, M237, H237, G237⟩ := id V_b222
      have hin237 : ¬ ((3 : Int32) < 0 ∨ cl237.slots.size ≤ ((3 : Int32)).toNatClampNeg) := inb_of S237 ⟨by decide, by decide⟩
      obtain ⟨T238, h238, X238, e238, W238, st238⟩ := stC X234 hx hZ e234 Ar237 (j := (3 : Int32)) hin237 (g := (mkF m 408 #[.val (.ref ar), .val (.int n1)] [(.int c3), (.int 3), (.ref b222), (.ref b222), (.ref b220), (.ref b220)])) rfl rfl (hb hby own_d9_408)
      have O := O.wr W238 g_b222
      have Va := Va.other W238 ne_ar_b222
      have F_value_b220 := F_value_b220.other W238 (Or.inl ne_b220_b222)
      have F_coder_b220 := F_coder_b220.other W238 (Or.inl ne_b220_b222)
      have E_b220 := E_b220.wr W238
      have hk := Nat.le_trans hk (Keep.of_wr W238).1
      have Z239 : n0 ≤ h238.size := Nat.le_trans Z235 (Keep.of_wr W238).1
      have KP := KP.wr W238 (Or.inr sz_b222)
      have V_b222 := Arv.set Ar237 q237 S237 M237 H237 G237 (fits_nar_char _) W238 3 rfl (Nat.le_of_ble_eq_true rfl)
      have V_b222 : Arv Z h238 b222 k222 .char (9 : Int32) [(.int c0), (.int c1), (.int c2), (.int c3), (.int 0), (.int 0), (.int 0), (.int 0), (.int 0)] (.int 0) := by have q := V_b222; simp only [nc3, List.set] at q; exact q
      have N238 := Fr.snoc X238 N234 g_b222
      obtain ⟨cl240, Ar240, q240, S240, M240, H240, G240⟩ := id Va
      have hin240 : ¬ ((4 : Int32) < 0 ∨ cl240.slots.size ≤ ((4 : Int32)).toNatClampNeg) := inb_of S240 ⟨by decide, by decide⟩
      obtain ⟨cl241, Ar241, q241, S241, M241, H241, G241⟩ := id V_b222
      have hin241 : ¬ ((4 : Int32) < 0 ∨ cl241.slots.size ≤ ((4 : Int32)).toNatClampNeg) := inb_of S241 ⟨by decide, by decide⟩
      obtain ⟨T242, h242, X242, e242, W242, st242⟩ := stC X238 hx hZ e238 Ar241 (j := (4 : Int32)) hin241 (g := (mkF m 414 #[.val (.ref ar), .val (.int n1)] [(.int c4), (.int 4), (.ref b222), (.ref b222), (.ref b220), (.ref b220)])) rfl rfl (hb hby own_d9_414)
      have O := O.wr W242 g_b222
      have Va := Va.other W242 ne_ar_b222
      have F_value_b220 := F_value_b220.other W242 (Or.inl ne_b220_b222)
      have F_coder_b220 := F_coder_b220.other W242 (Or.inl ne_b220_b222)
      have E_b220 := E_b220.wr W242
      have hk := Nat.le_trans hk (Keep.of_wr W242).1
      have Z243 : n0 ≤ h242.size := Nat.le_trans Z239 (Keep.of_wr W242).1
      have KP := KP.wr W242 (Or.inr sz_b222)
      have V_b222 := Arv.set Ar241 q241 S241 M241 H241 G241 (fits_nar_char _) W242 4 rfl (Nat.le_of_ble_eq_true rfl)
      have V_b222 : Arv Z h242 b222 k222 .char (9 : Int32) [(.int c0), (.int c1), (.int c2), (.int c3), (.int c4), (.int 0), (.int 0), (.int 0), (.int 0)] (.int 0) := by have q := V_b222; simp only [nc4, List.set] at q; exact q
      have N242 := Fr.snoc X242 N238 g_b222
      obtain ⟨cl244, Ar244, q244, S244, M244, H244, G244⟩ := id Va
      have hin244 : ¬ ((5 : Int32) < 0 ∨ cl244.slots.size ≤ ((5 : Int32)).toNatClampNeg) := inb_of S244 ⟨by decide, by decide⟩
      obtain ⟨cl245, Ar245, q245, S245, M245, H245, G245⟩ := id V_b222
      have hin245 : ¬ ((5 : Int32) < 0 ∨ cl245.slots.size ≤ ((5 : Int32)).toNatClampNeg) := inb_of S245 ⟨by decide, by decide⟩
      obtain ⟨T246, h246, X246, e246, W246, st246⟩ := stC X242 hx hZ e242 Ar245 (j := (5 : Int32)) hin245 (g := (mkF m 420 #[.val (.ref ar), .val (.int n1)] [(.int c5), (.int 5), (.ref b222), (.ref b222), (.ref b220), (.ref b220)])) rfl rfl (hb hby own_d9_420)
      have O := O.wr W246 g_b222
      have Va := Va.other W246 ne_ar_b222
      have F_value_b220 := F_value_b220.other W246 (Or.inl ne_b220_b222)
      have F_coder_b220 := F_coder_b220.other W246 (Or.inl ne_b220_b222)
      have E_b220 := E_b220.wr W246
      have hk := Nat.le_trans hk (Keep.of_wr W246).1
      have Z247 : n0 ≤ h246.size := Nat.le_trans Z243 (Keep.of_wr W246).1
      have KP := KP.wr W246 (Or.inr sz_b222)
      have V_b222 := Arv.set Ar245 q245 S245 M245 H245 G245 (fits_nar_char _) W246 5 rfl (Nat.le_of_ble_eq_true rfl)
      have V_b222 : Arv Z h246 b222 k222 .char (9 : Int32) [(.int c0), (.int c1), (.int c2), (.int c3), (.int c4), (.int c5), (.int 0), (.int 0), (.int 0)] (.int 0) := by have q := V_b222; simp only [nc5, List.set] at q; exact q
      have N246 := Fr.snoc X246 N242 g_b222
      obtain ⟨cl248, Ar248, q248, S248, M248, H248, G248⟩ := id Va
      have hin248 : ¬ ((6 : Int32) < 0 ∨ cl248.slots.size ≤ ((6 : Int32)).toNatClampNeg) := inb_of S248 ⟨by decide, by decide⟩
      obtain ⟨cl249, Ar249, q249, S249, M249, H249, G249⟩ := id V_b222
      have hin249 : ¬ ((6 : Int32) < 0 ∨ cl249.slots.size ≤ ((6 : Int32)).toNatClampNeg) := inb_of S249 ⟨by decide, by decide⟩
      obtain ⟨T250, h250, X250, e250, W250, st250⟩ := stC X246 hx hZ e246 Ar249 (j := (6 : Int32)) hin249 (g := (mkF m 428 #[.val (.ref ar), .val (.int n1)] [(.int c6), (.int 6), (.ref b222), (.ref b222), (.ref b220), (.ref b220)])) rfl rfl (hb hby own_d9_428)
      have O := O.wr W250 g_b222
      have Va := Va.other W250 ne_ar_b222
      have F_value_b220 := F_value_b220.other W250 (Or.inl ne_b220_b222)
      have F_coder_b220 := F_coder_b220.other W250 (Or.inl ne_b220_b222)
      have E_b220 := E_b220.wr W250
      have hk := Nat.le_trans hk (Keep.of_wr W250).1
      have Z251 : n0 ≤ h250.size := Nat.le_trans Z247 (Keep.of_wr W250).1
      have KP := KP.wr W250 (Or.inr sz_b222)
      have V_b222 := Arv.set Ar249 q249 S249 M249 H249 G249 (fits_nar_char _) W250 6 rfl (Nat.le_of_ble_eq_true rfl)
      have V_b222 : Arv Z h250 b222 k222 .char (9 : Int32) [(.int c0), (.int c1), (.int c2), (.int c3), (.int c4), (.int c5), (.int c6), (.int 0), (.int 0)] (.int 0) := by have q := V_b222; simp only [nc6, List.set] at q; exact q
      have N250 := Fr.snoc X250 N246 g_b222
      obtain ⟨cl252, Ar252, q252, S252, M252, H252, G252⟩ := id Va
      have hin252 : ¬ ((7 : Int32) < 0 ∨ cl252.slots.size ≤ ((7 : Int32)).toNatClampNeg) := inb_of S252 ⟨by decide, by decide⟩
      obtain ⟨cl253, Ar253, q253, S253, M253, H253, G253⟩ := id V_b222
      have hin253 : ¬ ((7 : Int32) < 0 ∨ cl253.slots.size ≤ ((7 : Int32)).toNatClampNeg) := inb_of S253 ⟨by decide, by decide⟩
      obtain ⟨T254, h254, X254, e254, W254, st254⟩ := stC X250 hx hZ e250 Ar253 (j := (7 : Int32)) hin253 (g := (mkF m 436 #[.val (.ref ar), .val (.int n1)] [(.int c7), (.int 7), (.ref b222), (.ref b222), (.ref b220), (.ref b220)])) rfl rfl (hb hby own_d9_436)
      have O := O.wr W254 g_b222
      have Va := Va.other W254 ne_ar_b222
      have F_value_b220 := F_value_b220.other W254 (Or.inl ne_b220_b222)
      have F_coder_b220 := F_coder_b220.other W254 (Or.inl ne_b220_b222)
      have E_b220 := E_b220.wr W254
      have hk := Nat.le_trans hk (Keep.of_wr W254).1
      have Z255 : n0 ≤ h254.size := Nat.le_trans Z251 (Keep.of_wr W254).1
      have KP := KP.wr W254 (Or.inr sz_b222)
      have V_b222 := Arv.set Ar253 q253 S253 M253 H253 G253 (fits_nar_char _) W254 7 rfl (Nat.le_of_ble_eq_true rfl)
      have V_b222 : Arv Z h254 b222 k222 .char (9 : Int32) [(.int c0), (.int c1), (.int c2), (.int c3), (.int c4), (.int c5), (.int c6), (.int c7), (.int 0)] (.int 0) := by have q := V_b222; simp only [nc7, List.set] at q; exact q
      have N254 := Fr.snoc X254 N250 g_b222
      obtain ⟨cl256, Ar256, q256, S256, M256, H256, G256⟩ := id Va
      have hin256 : ¬ ((8 : Int32) < 0 ∨ cl256.slots.size ≤ ((8 : Int32)).toNatClampNeg) := inb_of S256 ⟨by decide, by decide⟩
      obtain ⟨cl257, Ar257, q257, S257, M257, H257, G257⟩ := id V_b222
      have hin257 : ¬ ((8 : Int32) < 0 ∨ cl257.slots.size ≤ ((8 : Int32)).toNatClampNeg) := inb_of S257 ⟨by decide, by decide⟩
      obtain ⟨T258, h258, X258, e258, W258, st258⟩ := stC X254 hx hZ e254 Ar257 (j := (8 : Int32)) hin257 (g := (mkF m 444 #[.val (.ref ar), .val (.int n1)] [(.int c8), (.int 8), (.ref b222), (.ref b222), (.ref b220), (.ref b220)])) rfl rfl (hb hby own_d9_444)
      have O := O.wr W258 g_b222
      have Va := Va.other W258 ne_ar_b222
      have F_value_b220 := F_value_b220.other W258 (Or.inl ne_b220_b222)
      have F_coder_b220 := F_coder_b220.other W258 (Or.inl ne_b220_b222)
      have E_b220 := E_b220.wr W258
      have hk := Nat.le_trans hk (Keep.of_wr W258).1
      have Z259 : n0 ≤ h258.size := Nat.le_trans Z255 (Keep.of_wr W258).1
      have KP := KP.wr W258 (Or.inr sz_b222)
      have V_b222 := Arv.set Ar257 q257 S257 M257 H257 G257 (fits_nar_char _) W258 8 rfl (Nat.le_of_ble_eq_true rfl)
      have V_b222 : Arv Z h258 b222 k222 .char (9 : Int32) [(.int c0), (.int c1), (.int c2), (.int c3), (.int c4), (.int c5), (.int c6), (.int c7), (.int c8)] (.int 0) := by have q := V_b222; simp only [nc8, List.set] at q; exact q
      have N258 := Fr.snoc X258 N254 g_b222
      obtain ⟨_, _, ⟨T260, L260, k260, n260⟩, -, X260, ⟨Lc260, hQ260, l260, y260, z260⟩, st260⟩ := X258.specialBack hx (y := (⟨"java/lang/String", "<init>", "([C)V"⟩ : MethodName)) rfl hown (mvT hZ (hw _ (own_m (i := 55) rfl))) (mvT hZ (hw _ (own_m (i := 56) rfl))) (mvT hZ (hw _ (own_m (i := 57) rfl))) (by decide) (StrChars.Road.backV (W := 1) hZ (fun d hd => hw d ((by decide +kernel : ∀ d ∈ StrChars.Road.words, d ∈ tables_1) d hd)) (kI := 4) (hw _ (own_m (i := 2) rfl)) (cs := ([c0, c1, c2, c3, c4, c5, c6, c7, c8] : List Int32)) (bs := List.map (fun c => c.toInt8.toInt32) ([c0, c1, c2, c3, c4, c5, c6, c7, c8] : List Int32)) (n := 9) (n0 := n0) g_b220 Z259 E_b220 F_value_b220 F_coder_b220 V_b222 (S0.ext O.2) hcz rfl rfl (by decide) (by decide) (fun c hc => okA c (List.mem_of_mem_take (i := 9) hc)) rfl (by decide) (by decide)) (g := (mkF m 445 #[.val (.ref ar), .val (.int n1)] [(.ref b222), (.ref b220), (.ref b220)])) rfl (by rw [hml]; rfl) (Steps.refl _) (a := b220) (argsL := [(.ref b222)]) (rest := [(.ref b220)]) (lenOf own_pd4 rfl) rfl (by show 2 * 0 + _ ≤ _; exact Nat.le_of_eq rfl) (hb hby own_d9_445) (fun _ _ => ⟨rfl, e258, (by decide : 2 + 1 ≤ _), (by decide : 13 + 9 ≤ _)⟩)
      dsimp only [Pt.U, Pt.locs, Pt.cells, Pt.slots] at X260 l260 y260 z260 st260 hQ260
      subst l260 y260 z260
      obtain ⟨rfl, N260q, K260, Ee260, Fc260, b260, kb260, g1260, sz260, nx260, Fv260, VB260⟩ := hQ260
      have N260 := Fr.app N258 N260q
      have O := O.keep K260 (allS g_b220 all0)
      have E_b220 := E_b220.keep K260
      have V_b222 := V_b222.keep K260 (ninS (Ne.symm ne_b220_b222) nin0)
      have hk := Nat.le_trans hk K260.1
      have Z261 := Nat.le_trans Z259 K260.1
      have KP := KP.trans K260 (allS (Or.inr sz_b220) all0)
      obtain ⟨fs, hr, hrun, hended, hRW⟩ := X260.leaveW hS hk (v := some (.ref b220)) (fun h => by rw [Bd.returns] at h; cases h)
      refine ⟨_, _, pre218 _ ?_, hrun, hended, _, _, rfl, ?_, hRW.1, hRW.2.1, hRW.2.2.1, hRW.2.2.2.mono (by decide) (by decide)⟩
      · refine XS.icmpNo X0.here hx rfl (hb hby own_d9_374) rfl (teq hc219).2 ?_
        show Steps p.tables e below (s₁.setTop (mkF m 377 #[.val (.ref ar), .val (.int n1)] [])) _
        refine st220 _ ?_
        show Steps p.tables e below (T220.setTop (mkF m 380 #[.val (.ref ar), .val (.int n1)] [(.ref b220)])) _
        refine XS.dup X220.here hx rfl (hb hby own_d9_380) rfl rfl ?_
        show Steps p.tables e below (T220.setTop (mkF m 381 #[.val (.ref ar), .val (.int n1)] [(.ref b220), (.ref b220)])) _
        refine XS.bipush X220.here hx rfl (hb hby own_d9_381) ?_
        show Steps p.tables e below (T220.setTop (mkF m 383 #[.val (.ref ar), .val (.int n1)] [(.int 9), (.ref b220), (.ref b220)])) _
        refine st222 _ ?_
        show Steps p.tables e below (T222.setTop (mkF m 385 #[.val (.ref ar), .val (.int n1)] [(.ref b222), (.ref b220), (.ref b220)])) _
        refine XS.dup X222.here hx rfl (hb hby own_d9_385) rfl rfl ?_
        show Steps p.tables e below (T222.setTop (mkF m 386 #[.val (.ref ar), .val (.int n1)] [(.ref b222), (.ref b222), (.ref b220), (.ref b220)])) _
        refine XS.iconst X222.here hx rfl (hb hby own_d9_386) ?_
        show Steps p.tables e below (T222.setTop (mkF m 387 #[.val (.ref ar), .val (.int n1)] [(.int 0), (.ref b222), (.ref b222), (.ref b220), (.ref b220)])) _
        refine XS.aloadN X222.here hx rfl (hb hby own_d9_387) rfl rfl ?_
        show Steps p.tables e below (T222.setTop (mkF m 388 #[.val (.ref ar), .val (.int n1)] [(.ref ar), (.int 0), (.ref b222), (.ref b222), (.ref b220), (.ref b220)])) _
        refine XS.iconst X222.here hx rfl (hb hby own_d9_388) ?_
        show Steps p.tables e below (T222.setTop (mkF m 389 #[.val (.ref ar), .val (.int n1)] [(.int 0), (.ref ar), (.int 0), (.ref b222), (.ref b222), (.ref b220), (.ref b220)])) _
        refine X222.caload hx (j := (0 : Int32)) (v := (.int c0)) (by rw [e222]; exact Ar224.1) (State.isArrayOf_alike hZ.alike Ar224.2.1) Ar224.2.2 hin224 (H224.at hin224 rfl) (g := (mkF m 389 #[.val (.ref ar), .val (.int n1)] [(.int 0), (.ref ar), (.int 0), (.ref b222), (.ref b222), (.ref b220), (.ref b220)])) rfl rfl (hb hby own_d9_389) _ ?_
        show Steps p.tables e below (T222.setTop (mkF m 390 #[.val (.ref ar), .val (.int n1)] [(.int c0), (.int 0), (.ref b222), (.ref b222), (.ref b220), (.ref b220)])) _
        refine st226 _ ?_
        show Steps p.tables e below (T226.setTop (mkF m 391 #[.val (.ref ar), .val (.int n1)] [(.ref b222), (.ref b220), (.ref b220)])) _
        refine XS.dup X226.here hx rfl (hb hby own_d9_391) rfl rfl ?_
        show Steps p.tables e below (T226.setTop (mkF m 392 #[.val (.ref ar), .val (.int n1)] [(.ref b222), (.ref b222), (.ref b220), (.ref b220)])) _
        refine XS.iconst X226.here hx rfl (hb hby own_d9_392) ?_
        show Steps p.tables e below (T226.setTop (mkF m 393 #[.val (.ref ar), .val (.int n1)] [(.int 1), (.ref b222), (.ref b222), (.ref b220), (.ref b220)])) _
        refine XS.aloadN X226.here hx rfl (hb hby own_d9_393) rfl rfl ?_
        show Steps p.tables e below (T226.setTop (mkF m 394 #[.val (.ref ar), .val (.int n1)] [(.ref ar), (.int 1), (.ref b222), (.ref b222), (.ref b220), (.ref b220)])) _
        refine XS.iconst X226.here hx rfl (hb hby own_d9_394) ?_
        show Steps p.tables e below (T226.setTop (mkF m 395 #[.val (.ref ar), .val (.int n1)] [(.int 1), (.ref ar), (.int 1), (.ref b222), (.ref b222), (.ref b220), (.ref b220)])) _
        refine X226.caload hx (j := (1 : Int32)) (v := (.int c1)) (by rw [e226]; exact Ar228.1) (State.isArrayOf_alike hZ.alike Ar228.2.1) Ar228.2.2 hin228 (H228.at hin228 rfl) (g := (mkF m 395 #[.val (.ref ar), .val (.int n1)] [(.int 1), (.ref ar), (.int 1), (.ref b222), (.ref b222), (.ref b220), (.ref b220)])) rfl rfl (hb hby own_d9_395) _ ?_
        show Steps p.tables e below (T226.setTop (mkF m 396 #[.val (.ref ar), .val (.int n1)] [(.int c1), (.int 1), (.ref b222), (.ref b222), (.ref b220), (.ref b220)])) _
        refine st230 _ ?_
        show Steps p.tables e below (T230.setTop (mkF m 397 #[.val (.ref ar), .val (.int n1)] [(.ref b222), (.ref b220), (.ref b220)])) _
        refine XS.dup X230.here hx rfl (hb hby own_d9_397) rfl rfl ?_
        show Steps p.tables e below (T230.setTop (mkF m 398 #[.val (.ref ar), .val (.int n1)] [(.ref b222), (.ref b222), (.ref b220), (.ref b220)])) _
        refine XS.iconst X230.here hx rfl (hb hby own_d9_398) ?_
        show Steps p.tables e below (T230.setTop (mkF m 399 #[.val (.ref ar), .val (.int n1)] [(.int 2), (.ref b222), (.ref b222), (.ref b220), (.ref b220)])) _
        refine XS.aloadN X230.here hx rfl (hb hby own_d9_399) rfl rfl ?_
        show Steps p.tables e below (T230.setTop (mkF m 400 #[.val (.ref ar), .val (.int n1)] [(.ref ar), (.int 2), (.ref b222), (.ref b222), (.ref b220), (.ref b220)])) _
        refine XS.iconst X230.here hx rfl (hb hby own_d9_400) ?_
        show Steps p.tables e below (T230.setTop (mkF m 401 #[.val (.ref ar), .val (.int n1)] [(.int 2), (.ref ar), (.int 2), (.ref b222), (.ref b222), (.ref b220), (.ref b220)])) _
        refine X230.caload hx (j := (2 : Int32)) (v := (.int c2)) (by rw [e230]; exact Ar232.1) (State.isArrayOf_alike hZ.alike Ar232.2.1) Ar232.2.2 hin232 (H232.at hin232 rfl) (g := (mkF m 401 #[.val (.ref ar), .val (.int n1)] [(.int 2), (.ref ar), (.int 2), (.ref b222), (.ref b222), (.ref b220), (.ref b220)])) rfl rfl (hb hby own_d9_401) _ ?_
        show Steps p.tables e below (T230.setTop (mkF m 402 #[.val (.ref ar), .val (.int n1)] [(.int c2), (.int 2), (.ref b222), (.ref b222), (.ref b220), (.ref b220)])) _
        refine st234 _ ?_
        show Steps p.tables e below (T234.setTop (mkF m 403 #[.val (.ref ar), .val (.int n1)] [(.ref b222), (.ref b220), (.ref b220)])) _
        refine XS.dup X234.here hx rfl (hb hby own_d9_403) rfl rfl ?_
        show Steps p.tables e below (T234.setTop (mkF m 404 #[.val (.ref ar), .val (.int n1)] [(.ref b222), (.ref b222), (.ref b220), (.ref b220)])) _
        refine XS.iconst X234.here hx rfl (hb hby own_d9_404) ?_
        show Steps p.tables e below (T234.setTop (mkF m 405 #[.val (.ref ar), .val (.int n1)] [(.int 3), (.ref b222), (.ref b222), (.ref b220), (.ref b220)])) _
        refine XS.aloadN X234.here hx rfl (hb hby own_d9_405) rfl rfl ?_
        show Steps p.tables e below (T234.setTop (mkF m 406 #[.val (.ref ar), .val (.int n1)] [(.ref ar), (.int 3), (.ref b222), (.ref b222), (.ref b220), (.ref b220)])) _
        refine XS.iconst X234.here hx rfl (hb hby own_d9_406) ?_
        show Steps p.tables e below (T234.setTop (mkF m 407 #[.val (.ref ar), .val (.int n1)] [(.int 3), (.ref ar), (.int 3), (.ref b222), (.ref b222), (.ref b220), (.ref b220)])) _
        refine X234.caload hx (j := (3 : Int32)) (v := (.int c3)) (by rw [e234]; exact Ar236.1) (State.isArrayOf_alike hZ.alike Ar236.2.1) Ar236.2.2 hin236 (H236.at hin236 rfl) (g := (mkF m 407 #[.val (.ref ar), .val (.int n1)] [(.int 3), (.ref ar), (.int 3), (.ref b222), (.ref b222), (.ref b220), (.ref b220)])) rfl rfl (hb hby own_d9_407) _ ?_
        show Steps p.tables e below (T234.setTop (mkF m 408 #[.val (.ref ar), .val (.int n1)] [(.int c3), (.int 3), (.ref b222), (.ref b222), (.ref b220), (.ref b220)])) _
        refine st238 _ ?_
        show Steps p.tables e below (T238.setTop (mkF m 409 #[.val (.ref ar), .val (.int n1)] [(.ref b222), (.ref b220), (.ref b220)])) _
        refine XS.dup X238.here hx rfl (hb hby own_d9_409) rfl rfl ?_
        show Steps p.tables e below (T238.setTop (mkF m 410 #[.val (.ref ar), .val (.int n1)] [(.ref b222), (.ref b222), (.ref b220), (.ref b220)])) _
        refine XS.iconst X238.here hx rfl (hb hby own_d9_410) ?_
        show Steps p.tables e below (T238.setTop (mkF m 411 #[.val (.ref ar), .val (.int n1)] [(.int 4), (.ref b222), (.ref b222), (.ref b220), (.ref b220)])) _
        refine XS.aloadN X238.here hx rfl (hb hby own_d9_411) rfl rfl ?_
        show Steps p.tables e below (T238.setTop (mkF m 412 #[.val (.ref ar), .val (.int n1)] [(.ref ar), (.int 4), (.ref b222), (.ref b222), (.ref b220), (.ref b220)])) _
        refine XS.iconst X238.here hx rfl (hb hby own_d9_412) ?_
        show Steps p.tables e below (T238.setTop (mkF m 413 #[.val (.ref ar), .val (.int n1)] [(.int 4), (.ref ar), (.int 4), (.ref b222), (.ref b222), (.ref b220), (.ref b220)])) _
        refine X238.caload hx (j := (4 : Int32)) (v := (.int c4)) (by rw [e238]; exact Ar240.1) (State.isArrayOf_alike hZ.alike Ar240.2.1) Ar240.2.2 hin240 (H240.at hin240 rfl) (g := (mkF m 413 #[.val (.ref ar), .val (.int n1)] [(.int 4), (.ref ar), (.int 4), (.ref b222), (.ref b222), (.ref b220), (.ref b220)])) rfl rfl (hb hby own_d9_413) _ ?_
        show Steps p.tables e below (T238.setTop (mkF m 414 #[.val (.ref ar), .val (.int n1)] [(.int c4), (.int 4), (.ref b222), (.ref b222), (.ref b220), (.ref b220)])) _
        refine st242 _ ?_
        show Steps p.tables e below (T242.setTop (mkF m 415 #[.val (.ref ar), .val (.int n1)] [(.ref b222), (.ref b220), (.ref b220)])) _
        refine XS.dup X242.here hx rfl (hb hby own_d9_415) rfl rfl ?_
        show Steps p.tables e below (T242.setTop (mkF m 416 #[.val (.ref ar), .val (.int n1)] [(.ref b222), (.ref b222), (.ref b220), (.ref b220)])) _
        refine XS.iconst X242.here hx rfl (hb hby own_d9_416) ?_
        show Steps p.tables e below (T242.setTop (mkF m 417 #[.val (.ref ar), .val (.int n1)] [(.int 5), (.ref b222), (.ref b222), (.ref b220), (.ref b220)])) _
        refine XS.aloadN X242.here hx rfl (hb hby own_d9_417) rfl rfl ?_
        show Steps p.tables e below (T242.setTop (mkF m 418 #[.val (.ref ar), .val (.int n1)] [(.ref ar), (.int 5), (.ref b222), (.ref b222), (.ref b220), (.ref b220)])) _
        refine XS.iconst X242.here hx rfl (hb hby own_d9_418) ?_
        show Steps p.tables e below (T242.setTop (mkF m 419 #[.val (.ref ar), .val (.int n1)] [(.int 5), (.ref ar), (.int 5), (.ref b222), (.ref b222), (.ref b220), (.ref b220)])) _
        refine X242.caload hx (j := (5 : Int32)) (v := (.int c5)) (by rw [e242]; exact Ar244.1) (State.isArrayOf_alike hZ.alike Ar244.2.1) Ar244.2.2 hin244 (H244.at hin244 rfl) (g := (mkF m 419 #[.val (.ref ar), .val (.int n1)] [(.int 5), (.ref ar), (.int 5), (.ref b222), (.ref b222), (.ref b220), (.ref b220)])) rfl rfl (hb hby own_d9_419) _ ?_
        show Steps p.tables e below (T242.setTop (mkF m 420 #[.val (.ref ar), .val (.int n1)] [(.int c5), (.int 5), (.ref b222), (.ref b222), (.ref b220), (.ref b220)])) _
        refine st246 _ ?_
        show Steps p.tables e below (T246.setTop (mkF m 421 #[.val (.ref ar), .val (.int n1)] [(.ref b222), (.ref b220), (.ref b220)])) _
        refine XS.dup X246.here hx rfl (hb hby own_d9_421) rfl rfl ?_
        show Steps p.tables e below (T246.setTop (mkF m 422 #[.val (.ref ar), .val (.int n1)] [(.ref b222), (.ref b222), (.ref b220), (.ref b220)])) _
        refine XS.bipush X246.here hx rfl (hb hby own_d9_422) ?_
        show Steps p.tables e below (T246.setTop (mkF m 424 #[.val (.ref ar), .val (.int n1)] [(.int 6), (.ref b222), (.ref b222), (.ref b220), (.ref b220)])) _
        refine XS.aloadN X246.here hx rfl (hb hby own_d9_424) rfl rfl ?_
        show Steps p.tables e below (T246.setTop (mkF m 425 #[.val (.ref ar), .val (.int n1)] [(.ref ar), (.int 6), (.ref b222), (.ref b222), (.ref b220), (.ref b220)])) _
        refine XS.bipush X246.here hx rfl (hb hby own_d9_425) ?_
        show Steps p.tables e below (T246.setTop (mkF m 427 #[.val (.ref ar), .val (.int n1)] [(.int 6), (.ref ar), (.int 6), (.ref b222), (.ref b222), (.ref b220), (.ref b220)])) _
        refine X246.caload hx (j := (6 : Int32)) (v := (.int c6)) (by rw [e246]; exact Ar248.1) (State.isArrayOf_alike hZ.alike Ar248.2.1) Ar248.2.2 hin248 (H248.at hin248 rfl) (g := (mkF m 427 #[.val (.ref ar), .val (.int n1)] [(.int 6), (.ref ar), (.int 6), (.ref b222), (.ref b222), (.ref b220), (.ref b220)])) rfl rfl (hb hby own_d9_427) _ ?_
        show Steps p.tables e below (T246.setTop (mkF m 428 #[.val (.ref ar), .val (.int n1)] [(.int c6), (.int 6), (.ref b222), (.ref b222), (.ref b220), (.ref b220)])) _
        refine st250 _ ?_
        show Steps p.tables e below (T250.setTop (mkF m 429 #[.val (.ref ar), .val (.int n1)] [(.ref b222), (.ref b220), (.ref b220)])) _
        refine XS.dup X250.here hx rfl (hb hby own_d9_429) rfl rfl ?_
        show Steps p.tables e below (T250.setTop (mkF m 430 #[.val (.ref ar), .val (.int n1)] [(.ref b222), (.ref b222), (.ref b220), (.ref b220)])) _
        refine XS.bipush X250.here hx rfl (hb hby own_d9_430) ?_
        show Steps p.tables e below (T250.setTop (mkF m 432 #[.val (.ref ar), .val (.int n1)] [(.int 7), (.ref b222), (.ref b222), (.ref b220), (.ref b220)])) _
        refine XS.aloadN X250.here hx rfl (hb hby own_d9_432) rfl rfl ?_
        show Steps p.tables e below (T250.setTop (mkF m 433 #[.val (.ref ar), .val (.int n1)] [(.ref ar), (.int 7), (.ref b222), (.ref b222), (.ref b220), (.ref b220)])) _
        refine XS.bipush X250.here hx rfl (hb hby own_d9_433) ?_
        show Steps p.tables e below (T250.setTop (mkF m 435 #[.val (.ref ar), .val (.int n1)] [(.int 7), (.ref ar), (.int 7), (.ref b222), (.ref b222), (.ref b220), (.ref b220)])) _
        refine X250.caload hx (j := (7 : Int32)) (v := (.int c7)) (by rw [e250]; exact Ar252.1) (State.isArrayOf_alike hZ.alike Ar252.2.1) Ar252.2.2 hin252 (H252.at hin252 rfl) (g := (mkF m 435 #[.val (.ref ar), .val (.int n1)] [(.int 7), (.ref ar), (.int 7), (.ref b222), (.ref b222), (.ref b220), (.ref b220)])) rfl rfl (hb hby own_d9_435) _ ?_
        show Steps p.tables e below (T250.setTop (mkF m 436 #[.val (.ref ar), .val (.int n1)] [(.int c7), (.int 7), (.ref b222), (.ref b222), (.ref b220), (.ref b220)])) _
        refine st254 _ ?_
        show Steps p.tables e below (T254.setTop (mkF m 437 #[.val (.ref ar), .val (.int n1)] [(.ref b222), (.ref b220), (.ref b220)])) _
        refine XS.dup X254.here hx rfl (hb hby own_d9_437) rfl rfl ?_
        show Steps p.tables e below (T254.setTop (mkF m 438 #[.val (.ref ar), .val (.int n1)] [(.ref b222), (.ref b222), (.ref b220), (.ref b220)])) _
        refine XS.bipush X254.here hx rfl (hb hby own_d9_438) ?_
        show Steps p.tables e below (T254.setTop (mkF m 440 #[.val (.ref ar), .val (.int n1)] [(.int 8), (.ref b222), (.ref b222), (.ref b220), (.ref b220)])) _
        refine XS.aloadN X254.here hx rfl (hb hby own_d9_440) rfl rfl ?_
        show Steps p.tables e below (T254.setTop (mkF m 441 #[.val (.ref ar), .val (.int n1)] [(.ref ar), (.int 8), (.ref b222), (.ref b222), (.ref b220), (.ref b220)])) _
        refine XS.bipush X254.here hx rfl (hb hby own_d9_441) ?_
        show Steps p.tables e below (T254.setTop (mkF m 443 #[.val (.ref ar), .val (.int n1)] [(.int 8), (.ref ar), (.int 8), (.ref b222), (.ref b222), (.ref b220), (.ref b220)])) _
        refine X254.caload hx (j := (8 : Int32)) (v := (.int c8)) (by rw [e254]; exact Ar256.1) (State.isArrayOf_alike hZ.alike Ar256.2.1) Ar256.2.2 hin256 (H256.at hin256 rfl) (g := (mkF m 443 #[.val (.ref ar), .val (.int n1)] [(.int 8), (.ref ar), (.int 8), (.ref b222), (.ref b222), (.ref b220), (.ref b220)])) rfl rfl (hb hby own_d9_443) _ ?_
        show Steps p.tables e below (T254.setTop (mkF m 444 #[.val (.ref ar), .val (.int n1)] [(.int c8), (.int 8), (.ref b222), (.ref b222), (.ref b220), (.ref b220)])) _
        refine st258 _ ?_
        show Steps p.tables e below (T258.setTop (mkF m 445 #[.val (.ref ar), .val (.int n1)] [(.ref b222), (.ref b220), (.ref b220)])) _
        refine st260.trans ?_
        show Steps p.tables e below (T260.setTop (mkF m 448 #[.val (.ref ar), .val (.int n1)] [(.ref b220)])) _
        exact retOut X260 hx (t := (.object "java/lang/String")) Bd.returns rfl (Or.inr (Or.inr (Or.inr (Or.inr ⟨rfl, rfl, rfl⟩)))) (hb hby own_d9_448) hr
      have hnk : nn = 9 := own_nk hnn hc219 hn13 (by decide)
      · show own_Q_own_prefix Z ar n1 Ts cz ka AA nn h0 n0 _ T260.heap _
        subst hnk
        exact ⟨b220, b260, kb260, rfl, N260, KP, Ee260, Fc260, Fv260, by rw [eA]; exact VB260⟩
  have pre262 : ∀ t, Steps p.tables e below (s₁.setTop (mkF m 452 #[.val (.ref ar), .val (.int n1)] [(.int 10), (.int n1)])) t → Steps p.tables e below (s₁.setTop (entryFrame m #[(.ref ar), (.int n1)] 2)) t := fun t k => pre218 t (by
    refine XS.icmpYes X0.here hx rfl (pc0 := 374) (pc' := 449) rfl (hb hby own_d9_374) rfl (feq hc219).2 (by decide) (by decide) ?_
    show Steps p.tables e below (s₁.setTop (mkF m 449 #[.val (.ref ar), .val (.int n1)] [])) _
    refine XS.iloadN X0.here hx rfl (hb hby own_d9_449) rfl ?_
    show Steps p.tables e below (s₁.setTop (mkF m 450 #[.val (.ref ar), .val (.int n1)] [(.int n1)])) _
    refine XS.bipush X0.here hx rfl (hb hby own_d9_450) ?_
    show Steps p.tables e below (s₁.setTop (mkF m 452 #[.val (.ref ar), .val (.int n1)] [(.int 10), (.int n1)])) _
    exact k)
  by_cases hc263 : n1 = (10 : Int32)
  · skip
    as_aux_lemma =>
      obtain ⟨T264, h264, X264, e264, E264, A264, D264, U264, st264⟩ := newO X0 hx hZ hown (hw _ (own_m (i := 54) rfl)) (hw _ (own_m (i := 2) rfl)) (hw _ (own_m (i := 1) rfl)) e0 (g := (mkF m 455 #[.val (.ref ar), .val (.int n1)] [])) rfl (hb hby own_d9_455) (by decide) (by decide)
      obtain ⟨b264, g264⟩ : ∃ z, z = h0.size := ⟨_, rfl⟩
      rw [← g264] at A264 D264 U264 st264
      have g_b264 : n0 ≤ b264 := Nat.le_trans Z0 (Nat.le_of_eq g264.symm)
      have sz_b264 : h0.size ≤ b264 := Nat.le_trans KP.1 (Nat.le_of_eq g264.symm)
      have ne_ar_b264 : ar ≠ b264 := Nat.ne_of_lt (Nat.lt_of_lt_of_le Va.lt (Nat.le_of_eq g264.symm))
      have O := O.ext E264
      have Va := Va.ext E264
      have hk := Nat.le_trans hk E264.1
      have Z265 : n0 ≤ h264.size := Nat.le_trans Z0 E264.1
      have KP := KP.ext E264
      have F_value_b264 : Fld Z h264 b264 "java/lang/String" "value" "[B" .null := D264 (Or.inr (hw _ (own_m (i := 4) rfl))) (ty := (.array .byte)) (by decide)
      have F_coder_b264 : Fld Z h264 b264 "java/lang/String" "coder" "B" (.int 0) := D264 (Or.inr (hw _ (own_m (i := 5) rfl))) (ty := .byte) (by decide)
      have E_b264 := A264
      obtain ⟨T266, h266, k266, X266, e266, E266, A266, st266⟩ := newP X264 hx hZ (hw _ (own_m (i := 24) rfl)) e264 (g := (mkF m 461 #[.val (.ref ar), .val (.int n1)] [(.int 10), (.ref b264), (.ref b264)])) rfl (hb hby own_d9_461) rfl (by decide) (cap := 10) (by decide) (by decide) (by decide) (by decide)
      obtain ⟨b266, g266⟩ : ∃ z, z = h264.size := ⟨_, rfl⟩
      rw [← g266] at A266 st266
      have g_b266 : n0 ≤ b266 := Nat.le_trans Z265 (Nat.le_of_eq g266.symm)
      have sz_b266 : h0.size ≤ b266 := Nat.le_trans KP.1 (Nat.le_of_eq g266.symm)
      have ne_ar_b266 : ar ≠ b266 := Nat.ne_of_lt (Nat.lt_of_lt_of_le Va.lt (Nat.le_of_eq g266.symm))
      have ne_b264_b266 : b264 ≠ b266 := Nat.ne_of_lt (Nat.lt_of_lt_of_le F_value_b264.lt (Nat.le_of_eq g266.symm))
      have O := O.ext E266
      have Va := Va.ext E266
      have F_value_b264 := F_value_b264.ext E266
      have F_coder_b264 := F_coder_b264.ext E266
      have E_b264 := E_b264.ext E266
      have hk := Nat.le_trans hk E266.1
      have Z267 : n0 ≤ h266.size := Nat.le_trans Z265 E266.1
      have KP := KP.ext E266
      have V_b266 : Arv Z h266 b266 k266 .char (10 : Int32) [(.int 0), (.int 0), (.int 0), (.int 0), (.int 0), (.int 0), (.int 0), (.int 0), (.int 0), (.int 0)] (.int 0) := (Arv.new A266 (by decide)).pad (pad_rep [] (.int 0) 10)
      obtain ⟨cl268, Ar268, q268, S268, M268, H268, G268⟩ := id Va
      have hin268 : ¬ ((0 : Int32) < 0 ∨ cl268.slots.size ≤ ((0 : Int32)).toNatClampNeg) := inb_of S268 ⟨by decide, by decide⟩
      obtain ⟨cl269, Ar269, q269, S269, M269, H269, G269⟩ := id V_b266
      have hin269 : ¬ ((0 : Int32) < 0 ∨ cl269.slots.size ≤ ((0 : Int32)).toNatClampNeg) := inb_of S269 ⟨by decide, by decide⟩
      obtain ⟨T270, h270, X270, e270, W270, st270⟩ := stC X266 hx hZ e266 Ar269 (j := (0 : Int32)) hin269 (g := (mkF m 468 #[.val (.ref ar), .val (.int n1)] [(.int c0), (.int 0), (.ref b266), (.ref b266), (.ref b264), (.ref b264)])) rfl rfl (hb hby own_d9_468)
      have O := O.wr W270 g_b266
      have Va := Va.other W270 ne_ar_b266
      have F_value_b264 := F_value_b264.other W270 (Or.inl ne_b264_b266)
      have F_coder_b264 := F_coder_b264.other W270 (Or.inl ne_b264_b266)
      have E_b264 := E_b264.wr W270
      have hk := Nat.le_trans hk (Keep.of_wr W270).1
      have Z271 : n0 ≤ h270.size := Nat.le_trans Z267 (Keep.of_wr W270).1
      have KP := KP.wr W270 (Or.inr sz_b266)
      have V_b266 := Arv.set Ar269 q269 S269 M269 H269 G269 (fits_nar_char _) W270 0 rfl (Nat.le_of_ble_eq_true rfl)
      have V_b266 : Arv Z h270 b266 k266 .char (10 : Int32) [(.int c0), (.int 0), (.int 0), (.int 0), (.int 0), (.int 0), (.int 0), (.int 0), (.int 0), (.int 0)] (.int 0) := by have q := V_b266; simp only [nc0, List.set] at q; exact q
      have N270 := Fr.snoc X270 N0 g_b266
      obtain ⟨cl272, Ar272, q272, S272, M272, H272, G272⟩ := id Va
      have hin272 : ¬ ((1 : Int32) < 0 ∨ cl272.slots.size ≤ ((1 : Int32)).toNatClampNeg) := inb_of S272 ⟨by decide, by decide⟩
      obtain ⟨cl273, Ar273, q273, S273, M273, H273, G273⟩ := id V_b266
      have hin273 : ¬ ((1 : Int32) < 0 ∨ cl273.slots.size ≤ ((1 : Int32)).toNatClampNeg) := inb_of S273 ⟨by decide, by decide⟩
      obtain ⟨T274, h274, X274, e274, W274, st274⟩ := stC X270 hx hZ e270 Ar273 (j := (1 : Int32)) hin273 (g := (mkF m 474 #[.val (.ref ar), .val (.int n1)] [(.int c1), (.int 1), (.ref b266), (.ref b266), (.ref b264), (.ref b264)])) rfl rfl (hb hby own_d9_474)
      have O := O.wr W274 g_b266
      have Va := Va.other W274 ne_ar_b266
      have F_value_b264 := F_value_b264.other W274 (Or.inl ne_b264_b266)
      have F_coder_b264 := F_coder_b264.other W274 (Or.inl ne_b264_b266)
      have E_b264 := E_b264.wr W274
      have hk := Nat.le_trans hk (Keep.of_wr W274).1
      have Z275 : n0 ≤ h274.size := Nat.le_trans Z271 (Keep.of_wr W274).1
      have KP := KP.wr W274 (Or.inr sz_b266)
      have V_b266 := Arv.set Ar273 q273 S273 M273 H273 G273 (fits_nar_char _) W274 1 rfl (Nat.le_of_ble_eq_true rfl)
      have V_b266 : Arv Z h274 b266 k266 .char (10 : Int32) [(.int c0), (.int c1), (.int 0), (.int 0), (.int 0), (.int 0), (.int 0), (.int 0), (.int 0), (.int 0)] (.int 0) := by have q := V_b266; simp only [nc1, List.set] at q; exact q
      have N274 := Fr.snoc X274 N270 g_b266
      obtain ⟨cl276, Ar276, q276, S276, M276, H276, G276⟩ := id Va
      have hin276 : ¬ ((2 : Int32) < 0 ∨ cl276.slots.size ≤ ((2 : Int32)).toNatClampNeg) := inb_of S276 ⟨by decide, by decide⟩
      obtain ⟨cl277, Ar277, q277, S277, M277, H277, G277⟩ := id V_b266
      have hin277 : ¬ ((2 : Int32) < 0 ∨ cl277.slots.size ≤ ((2 : Int32)).toNatClampNeg) := inb_of S277 ⟨by decide, by decide⟩
      obtain ⟨T278, h278, X278, e278, W278, st278⟩ := stC X274 hx hZ e274 Ar277 (j := (2 : Int32)) hin277 (g := (mkF m 480 #[.val (.ref ar), .val (.int n1)] [(.int c2), (.int 2), (.ref b266), (.ref b266), (.ref b264), (.ref b264)])) rfl rfl (hb hby own_d9_480)
      have O := O.wr W278 g_b266
      have Va := Va.other W278 ne_ar_b266
      have F_value_b264 := F_value_b264.other W278 (Or.inl ne_b264_b266)
      have F_coder_b264 := F_coder_b264.other W278 (Or.inl ne_b264_b266)
      have E_b264 := E_b264.wr W278
      have hk := Nat.le_trans hk (Keep.of_wr W278).1
      have Z279 : n0 ≤ h278.size := Nat.le_trans Z275 (Keep.of_wr W278).1
      have KP := KP.wr W278 (Or.inr sz_b266)
      have V_b266 := Arv.set Ar277 q277 S277 M277 H277 G277 (fits_nar_char _) W278 2 rfl (Nat.le_of_ble_eq_true rfl)
      have V_b266 : Arv Z h278 b266 k266 .char (10 : Int32) [(.int c0), (.int c1), (.int c2), (.int 0), (.int 0), (.int 0), (.int 0), (.int 0), (.int 0), (.int 0)] (.int 0) := by have q := V_b266; simp only [nc2, List.set] at q; exact q
      have N278 := Fr.snoc X278 N274 g_b266
      obtain ⟨cl280, Ar280, q280, S280, M280, H280, G280⟩ := id Va
      have hin280 : ¬ ((3 : Int32) < 0 ∨ cl280.slots.size ≤ ((3 : Int32)).toNatClampNeg) := inb_of S280 ⟨by decide, by decide⟩
      obtain ⟨cl281, Ar281, q281, S281, M281, H281, G281⟩ := id V_b266
      have hin281 : ¬ ((3 : Int32) < 0 ∨ cl281.slots.size ≤ ((3 : Int32)).toNatClampNeg) := inb_of S281 ⟨by decide, by decide⟩
      obtain ⟨T282, h282, X282, e282, W282, st282⟩ := stC X278 hx hZ e278 Ar281 (j := (3 : Int32)) hin281 (g := (mkF m 486 #[.val (.ref ar), .val (.int n1)] [(.int c3), (.int 3), (.ref b266), (.ref b266), (.ref b264), (.ref b264)])) rfl rfl (hb hby own_d9_486)
      have O := O.wr W282 g_b266
      have Va := Va.other W282 ne_ar_b266
      have F_value_b264 := F_value_b264.other W282 (Or.inl ne_b264_b266)
      have F_coder_b264 := F_coder_b264.other W282 (Or.inl ne_b264_b266)
      have E_b264 := E_b264.wr W282
      have hk := Nat.le_trans hk (Keep.of_wr W282).1
      have Z283 : n0 ≤ h282.size := Nat.le_trans Z279 (Keep.of_wr W282).1
      have KP := KP.wr W282 (Or.inr sz_b266)
      have V_b266 := Arv.set Ar281 q281 S281 M281 H281 G281 (fits_nar_char _) W282 3 rfl (Nat.le_of_ble_eq_true rfl)
      have V_b266 : Arv Z h282 b266 k266 .char (10 : Int32) [(.int c0), (.int c1), (.int c2), (.int c3), (.int 0), (.int 0), (.int 0), (.int 0), (.int 0), (.int 0)] (.int 0) := by have q := V_b266; simp only [nc3, List.set] at q; exact q
      have N282 := Fr.snoc X282 N278 g_b266
      obtain ⟨cl284, Ar284, q284, S284, M284, H284, G284⟩ := id Va
      have hin284 : ¬ ((4 : Int32) < 0 ∨ cl284.slots.size ≤ ((4 : Int32)).toNatClampNeg) := inb_of S284 ⟨by decide, by decide⟩
      obtain ⟨cl285, Ar285, q285, S285, M285, H285, G285⟩ := id V_b266
      have hin285 : ¬ ((4 : Int32) < 0 ∨ cl285.slots.size ≤ ((4 : Int32)).toNatClampNeg) := inb_of S285 ⟨by decide, by decide⟩
      obtain ⟨T286, h286, X286, e286, W286, st286⟩ := stC X282 hx hZ e282 Ar285 (j := (4 : Int32)) hin285 (g := (mkF m 492 #[.val (.ref ar), .val (.int n1)] [(.int c4), (.int 4), (.ref b266), (.ref b266), (.ref b264), (.ref b264)])) rfl rfl (hb hby own_d9_492)
      have O := O.wr W286 g_b266
      have Va := Va.other W286 ne_ar_b266
      have F_value_b264 := F_value_b264.other W286 (Or.inl ne_b264_b266)
      have F_coder_b264 := F_coder_b264.other W286 (Or.inl ne_b264_b266)
      have E_b264 := E_b264.wr W286
      have hk := Nat.le_trans hk (Keep.of_wr W286).1
      have Z287 : n0 ≤ h286.size := Nat.le_trans Z283 (Keep.of_wr W286).1
      have KP := KP.wr W286 (Or.inr sz_b266)
      have V_b266 := Arv.set Ar285 q285 S285 M285 H285 G285 (fits_nar_char _) W286 4 rfl (Nat.le_of_ble_eq_true rfl)
      have V_b266 : Arv Z h286 b266 k266 .char (10 : Int32) [(.int c0), (.int c1), (.int c2), (.int c3), (.int c4), (.int 0), (.int 0), (.int 0), (.int 0), (.int 0)] (.int 0) := by have q := V_b266; simp only [nc4, List.set] at q; exact q
      have N286 := Fr.snoc X286 N282 g_b266
      obtain ⟨cl288, Ar288, q288, S288, M288, H288, G288⟩ := id Va
      have hin288 : ¬ ((5 : Int32) < 0 ∨ cl288.slots.size ≤ ((5 : Int32)).toNatClampNeg) := inb_of S288 ⟨by decide, by decide⟩
      obtain ⟨cl289, Ar289, q289, S289, M289, H289, G289⟩ := id V_b266
      have hin289 : ¬ ((5 : Int32) < 0 ∨ cl289.slots.size ≤ ((5 : Int32)).toNatClampNeg) := inb_of S289 ⟨by decide, by decide⟩
      obtain ⟨T290, h290, X290, e290, W290, st290⟩ := stC X286 hx hZ e286 Ar289 (j := (5 : Int32)) hin289 (g := (mkF m 498 #[.val (.ref ar), .val (.int n1)] [(.int c5), (.int 5), (.ref b266), (.ref b266), (.ref b264), (.ref b264)])) rfl rfl (hb hby own_d9_498)
      have O := O.wr W290 g_b266
      have Va := Va.other W290 ne_ar_b266
      have F_value_b264 := F_value_b264.other W290 (Or.inl ne_b264_b266)
      have F_coder_b264 := F_coder_b264.other W290 (Or.inl ne_b264_b266)
      have E_b264 := E_b264.wr W290
      have hk := Nat.le_trans hk (Keep.of_wr W290).1
      have Z291 : n0 ≤ h290.size := Nat.le_trans Z287 (Keep.of_wr W290).1
      have KP := KP.wr W290 (Or.inr sz_b266)
      have V_b266 := Arv.set Ar289 q289 S289 M289 H289 G289 (fits_nar_char _) W290 5 rfl (Nat.le_of_ble_eq_true rfl)
      have V_b266 : Arv Z h290 b266 k266 .char (10 : Int32) [(.int c0), (.int c1), (.int c2), (.int c3), (.int c4), (.int c5), (.int 0), (.int 0), (.int 0), (.int 0)] (.int 0) := by have q := V_b266; simp only [nc5, List.set] at q; exact q
      have N290 := Fr.snoc X290 N286 g_b266
      obtain ⟨cl292, Ar292, q292, S292, M292, H292, G292⟩ := id Va
      have hin292 : ¬ ((6 : Int32) < 0 ∨ cl292.slots.size ≤ ((6 : Int32)).toNatClampNeg) := inb_of S292 ⟨by decide, by decide⟩
      obtain ⟨cl293, Ar293, q293, S293, M293, H293, G293⟩ := id V_b266
      have hin293 : ¬ ((6 : Int32) < 0 ∨ cl293.slots.size ≤ ((6 : Int32)).toNatClampNeg) := inb_of S293 ⟨by decide, by decide⟩
      obtain ⟨T294, h294, X294, e294, W294, st294⟩ := stC X290 hx hZ e290 Ar293 (j := (6 : Int32)) hin293 (g := (mkF m 506 #[.val (.ref ar), .val (.int n1)] [(.int c6), (.int 6), (.ref b266), (.ref b266), (.ref b264), (.ref b264)])) rfl rfl (hb hby own_d9_506)
      have O := O.wr W294 g_b266
      have Va := Va.other W294 ne_ar_b266
      have F_value_b264 := F_value_b264.other W294 (Or.inl ne_b264_b266)
      have F_coder_b264 := F_coder_b264.other W294 (Or.inl ne_b264_b266)
      have E_b264 := E_b264.wr W294
      have hk := Nat.le_trans hk (Keep.of_wr W294).1
      have Z295 : n0 ≤ h294.size := Nat.le_trans Z291 (Keep.of_wr W294).1
      have KP := KP.wr W294 (Or.inr sz_b266)
      have V_b266 := Arv.set Ar293 q293 S293 M293 H293 G293 (fits_nar_char _) W294 6 rfl (Nat.le_of_ble_eq_true rfl)
      have V_b266 : Arv Z h294 b266 k266 .char (10 : Int32) [(.int c0), (.int c1), (.int c2), (.int c3), (.int c4), (.int c5), (.int c6), (.int 0), (.int 0), (.int 0)] (.int 0) := by have q := V_b266; simp only [nc6, List.set] at q; exact q
      have N294 := Fr.snoc X294 N290 g_b266
      obtain ⟨cl296, Ar296, q296, S296, M296, H296, G296⟩ := id Va
      have hin296 : ¬ ((7 : Int32) < 0 ∨ cl296.slots.size ≤ ((7 : Int32)).toNatClampNeg) := inb_of S296 ⟨by decide, by decide⟩
      obtain ⟨cl297, Ar297, q297, S297, M297, H297, G297⟩ := id V_b266
      have hin297 : ¬ ((7 : Int32) < 0 ∨ cl297.slots.size ≤ ((7 : Int32)).toNatClampNeg) := inb_of S297 ⟨by decide, by decide⟩
      obtain ⟨T298, h298, X298, e298, W298, st298⟩ := stC X294 hx hZ e294 Ar297 (j := (7 : Int32)) hin297 (g := (mkF m 514 #[.val (.ref ar), .val (.int n1)] [(.int c7), (.int 7), (.ref b266), (.ref b266), (.ref b264), (.ref b264)])) rfl rfl (hb hby own_d9_514)
      have O := O.wr W298 g_b266
      have Va := Va.other W298 ne_ar_b266
      have F_value_b264 := F_value_b264.other W298 (Or.inl ne_b264_b266)
      have F_coder_b264 := F_coder_b264.other W298 (Or.inl ne_b264_b266)
      have E_b264 := E_b264.wr W298
      have hk := Nat.le_trans hk (Keep.of_wr W298).1
      have Z299 : n0 ≤ h298.size := Nat.le_trans Z295 (Keep.of_wr W298).1
      have KP := KP.wr W298 (Or.inr sz_b266)
      have V_b266 := Arv.set Ar297 q297 S297 M297 H297 G297 (fits_nar_char _) W298 7 rfl (Nat.le_of_ble_eq_true rfl)
      have V_b266 : Arv Z h298 b266 k266 .char (10 : Int32) [(.int c0), (.int c1), (.int c2), (.int c3), (.int c4), (.int c5), (.int c6), (.int c7), (.int 0), (.int 0)] (.int 0) := by have q := V_b266; simp only [nc7, List.set] at q; exact q
      have N298 := Fr.snoc X298 N294 g_b266
      obtain ⟨cl300, Ar300, q300, S300, M300, H300, G300⟩ := id Va
      have hin300 : ¬ ((8 : Int32) < 0 ∨ cl300.slots.size ≤ ((8 : Int32)).toNatClampNeg) := inb_of S300 ⟨by decide, by decide⟩
      obtain ⟨cl301, Ar301, q301, S301, M301, H301, G301⟩ := id V_b266
      have hin301 : ¬ ((8 : Int32) < 0 ∨ cl301.slots.size ≤ ((8 : Int32)).toNatClampNeg) := inb_of S301 ⟨by decide, by decide⟩
      obtain ⟨T302, h302, X302, e302, W302, st302⟩ := stC X298 hx hZ e298 Ar301 (j := (8 : Int32)) hin301 (g := (mkF m 522 #[.val (.ref ar), .val (.int n1)] [(.int c8), (.int 8), (.ref b266), (.ref b266), (.ref b264), (.ref b264)])) rfl rfl (hb hby own_d9_522)
      have O := O.wr W302 g_b266
      have Va := Va.other W302 ne_ar_b266
      have F_value_b264 := F_value_b264.other W302 (Or.inl ne_b264_b266)
      have F_coder_b264 := F_coder_b264.other W302 (Or.inl ne_b264_b266)
      have E_b264 := E_b264.wr W302
      have hk := Nat.le_trans hk (Keep.of_wr W302).1
      have Z303 : n0 ≤ h302.size := Nat.le_trans Z299 (Keep.of_wr W302).1
      have KP := KP.wr W302 (Or.inr sz_b266)
      have V_b266 := Arv.set Ar301 q301 S301 M301 H301 G301 (fits_nar_char _) W302 8 rfl (Nat.le_of_ble_eq_true rfl)
      have V_b266 : Arv Z h302 b266 k266 .char (10 : Int32) [(.int c0), (.int c1), (.int c2), (.int c3), (.int c4), (.int c5), (.int c6), (.int c7), (.int c8), (.int 0)] (.int 0) := by have q := V_b266; simp only [nc8, List.set] at q; exact q
      have N302 := Fr.snoc X302 N298 g_b266
      obtain ⟨cl304, Ar304, q304, S304, M304, H304, G304⟩ := id Va
      have hin304 : ¬ ((9 : Int32) < 0 ∨ cl304.slots.size ≤ ((9 : Int32)).toNatClampNeg) := inb_of S304 ⟨by decide, by decide⟩
      obtain ⟨cl305, Ar305, q305, S305, M305, H305, G305⟩ := id V_b266
      have hin305 : ¬ ((9 : Int32) < 0 ∨ cl305.slots.size ≤ ((9 : Int32)).toNatClampNeg) := inb_of S305 ⟨by decide, by decide⟩
      obtain ⟨T306, h306, X306, e306, W306, st306⟩ := stC X302 hx hZ e302 Ar305 (j := (9 : Int32)) hin305 (g := (mkF m 530 #[.val (.ref ar), .val (.int n1)] [(.int c9), (.int 9), (.ref b266), (.ref b266), (.ref b264), (.ref b264)])) rfl rfl (hb hby own_d9_530)
      have O := O.wr W306 g_b266
      have Va := Va.other W306 ne_ar_b266
      have F_value_b264 := F_value_b264.other W306 (Or.inl ne_b264_b266)
      have F_coder_b264 := F_coder_b264.other W306 (Or.inl ne_b264_b266)
      have E_b264 := E_b264.wr W306
      have hk := Nat.le_trans hk (Keep.of_wr W306).1
      have Z307 : n0 ≤ h306.size := Nat.le_trans Z303 (Keep.of_wr W306).1
      have KP := KP.wr W306 (Or.inr sz_b266)
      have V_b266 := Arv.set Ar305 q305 S305 M305 H305 G305 (fits_nar_char _) W306 9 rfl (Nat.le_of_ble_eq_true rfl)
      have V_b266 : Arv Z h306 b266 k266 .char (10 : Int32) [(.int c0), (.int c1), (.int c2), (.int c3), (.int c4), (.int c5), (.int c6), (.int c7), (.int c8), (.int c9)] (.int 0) := by have q := V_b266; simp only [nc9, List.set] at q; exact q
      have N306 := Fr.snoc X306 N302 g_b266
      obtain ⟨_, _, ⟨T308, L308, k308, n308⟩, -, X308, ⟨Lc308, hQ308, l308, y308, z308⟩, st308⟩ := X306.specialBack hx (y := (⟨"java/lang/String", "<init>", "([C)V"⟩ : MethodName)) rfl hown (mvT hZ (hw _ (own_m (i := 55) rfl))) (mvT hZ (hw _ (own_m (i := 56) rfl))) (mvT hZ (hw _ (own_m (i := 57) rfl))) (by decide) (StrChars.Road.backV (W := 1) hZ (fun d hd => hw d ((by decide +kernel : ∀ d ∈ StrChars.Road.words, d ∈ tables_1) d hd)) (kI := 4) (hw _ (own_m (i := 2) rfl)) (cs := ([c0, c1, c2, c3, c4, c5, c6, c7, c8, c9] : List Int32)) (bs := List.map (fun c => c.toInt8.toInt32) ([c0, c1, c2, c3, c4, c5, c6, c7, c8, c9] : List Int32)) (n := 10) (n0 := n0) g_b264 Z307 E_b264 F_value_b264 F_coder_b264 V_b266 (S0.ext O.2) hcz rfl rfl (by decide) (by decide) (fun c hc => okA c (List.mem_of_mem_take (i := 10) hc)) rfl (by decide) (by decide)) (g := (mkF m 531 #[.val (.ref ar), .val (.int n1)] [(.ref b266), (.ref b264), (.ref b264)])) rfl (by rw [hml]; rfl) (Steps.refl _) (a := b264) (argsL := [(.ref b266)]) (rest := [(.ref b264)]) (lenOf own_pd4 rfl) rfl (by show 2 * 0 + _ ≤ _; exact Nat.le_of_eq rfl) (hb hby own_d9_531) (fun _ _ => ⟨rfl, e306, (by decide : 2 + 1 ≤ _), (by decide : 14 + 10 ≤ _)⟩)
      dsimp only [Pt.U, Pt.locs, Pt.cells, Pt.slots] at X308 l308 y308 z308 st308 hQ308
      subst l308 y308 z308
      obtain ⟨rfl, N308q, K308, Ee308, Fc308, b308, kb308, g1308, sz308, nx308, Fv308, VB308⟩ := hQ308
      have N308 := Fr.app N306 N308q
      have O := O.keep K308 (allS g_b264 all0)
      have E_b264 := E_b264.keep K308
      have V_b266 := V_b266.keep K308 (ninS (Ne.symm ne_b264_b266) nin0)
      have hk := Nat.le_trans hk K308.1
      have Z309 := Nat.le_trans Z307 K308.1
      have KP := KP.trans K308 (allS (Or.inr sz_b264) all0)
      obtain ⟨fs, hr, hrun, hended, hRW⟩ := X308.leaveW hS hk (v := some (.ref b264)) (fun h => by rw [Bd.returns] at h; cases h)
      refine ⟨_, _, pre262 _ ?_, hrun, hended, _, _, rfl, ?_, hRW.1, hRW.2.1, hRW.2.2.1, hRW.2.2.2.mono (by decide) (by decide)⟩
      · refine XS.icmpNo X0.here hx rfl (hb hby own_d9_452) rfl (teq hc263).2 ?_
        show Steps p.tables e below (s₁.setTop (mkF m 455 #[.val (.ref ar), .val (.int n1)] [])) _
        refine st264 _ ?_
        show Steps p.tables e below (T264.setTop (mkF m 458 #[.val (.ref ar), .val (.int n1)] [(.ref b264)])) _
        refine XS.dup X264.here hx rfl (hb hby own_d9_458) rfl rfl ?_
        show Steps p.tables e below (T264.setTop (mkF m 459 #[.val (.ref ar), .val (.int n1)] [(.ref b264), (.ref b264)])) _
        refine XS.bipush X264.here hx rfl (hb hby own_d9_459) ?_
        show Steps p.tables e below (T264.setTop (mkF m 461 #[.val (.ref ar), .val (.int n1)] [(.int 10), (.ref b264), (.ref b264)])) _
        refine st266 _ ?_
        show Steps p.tables e below (T266.setTop (mkF m 463 #[.val (.ref ar), .val (.int n1)] [(.ref b266), (.ref b264), (.ref b264)])) _
        refine XS.dup X266.here hx rfl (hb hby own_d9_463) rfl rfl ?_
        show Steps p.tables e below (T266.setTop (mkF m 464 #[.val (.ref ar), .val (.int n1)] [(.ref b266), (.ref b266), (.ref b264), (.ref b264)])) _
        refine XS.iconst X266.here hx rfl (hb hby own_d9_464) ?_
        show Steps p.tables e below (T266.setTop (mkF m 465 #[.val (.ref ar), .val (.int n1)] [(.int 0), (.ref b266), (.ref b266), (.ref b264), (.ref b264)])) _
        refine XS.aloadN X266.here hx rfl (hb hby own_d9_465) rfl rfl ?_
        show Steps p.tables e below (T266.setTop (mkF m 466 #[.val (.ref ar), .val (.int n1)] [(.ref ar), (.int 0), (.ref b266), (.ref b266), (.ref b264), (.ref b264)])) _
        refine XS.iconst X266.here hx rfl (hb hby own_d9_466) ?_
        show Steps p.tables e below (T266.setTop (mkF m 467 #[.val (.ref ar), .val (.int n1)] [(.int 0), (.ref ar), (.int 0), (.ref b266), (.ref b266), (.ref b264), (.ref b264)])) _
        refine X266.caload hx (j := (0 : Int32)) (v := (.int c0)) (by rw [e266]; exact Ar268.1) (State.isArrayOf_alike hZ.alike Ar268.2.1) Ar268.2.2 hin268 (H268.at hin268 rfl) (g := (mkF m 467 #[.val (.ref ar), .val (.int n1)] [(.int 0), (.ref ar), (.int 0), (.ref b266), (.ref b266), (.ref b264), (.ref b264)])) rfl rfl (hb hby own_d9_467) _ ?_
        show Steps p.tables e below (T266.setTop (mkF m 468 #[.val (.ref ar), .val (.int n1)] [(.int c0), (.int 0), (.ref b266), (.ref b266), (.ref b264), (.ref b264)])) _
        refine st270 _ ?_
        show Steps p.tables e below (T270.setTop (mkF m 469 #[.val (.ref ar), .val (.int n1)] [(.ref b266), (.ref b264), (.ref b264)])) _
        refine XS.dup X270.here hx rfl (hb hby own_d9_469) rfl rfl ?_
        show Steps p.tables e below (T270.setTop (mkF m 470 #[.val (.ref ar), .val (.int n1)] [(.ref b266), (.ref b266), (.ref b264), (.ref b264)])) _
        refine XS.iconst X270.here hx rfl (hb hby own_d9_470) ?_
        show Steps p.tables e below (T270.setTop (mkF m 471 #[.val (.ref ar), .val (.int n1)] [(.int 1), (.ref b266), (.ref b266), (.ref b264), (.ref b264)])) _
        refine XS.aloadN X270.here hx rfl (hb hby own_d9_471) rfl rfl ?_
        show Steps p.tables e below (T270.setTop (mkF m 472 #[.val (.ref ar), .val (.int n1)] [(.ref ar), (.int 1), (.ref b266), (.ref b266), (.ref b264), (.ref b264)])) _
        refine XS.iconst X270.here hx rfl (hb hby own_d9_472) ?_
        show Steps p.tables e below (T270.setTop (mkF m 473 #[.val (.ref ar), .val (.int n1)] [(.int 1), (.ref ar), (.int 1), (.ref b266), (.ref b266), (.ref b264), (.ref b264)])) _
        refine X270.caload hx (j := (1 : Int32)) (v := (.int c1)) (by rw [e270]; exact Ar272.1) (State.isArrayOf_alike hZ.alike Ar272.2.1) Ar272.2.2 hin272 (H272.at hin272 rfl) (g := (mkF m 473 #[.val (.ref ar), .val (.int n1)] [(.int 1), (.ref ar), (.int 1), (.ref b266), (.ref b266), (.ref b264), (.ref b264)])) rfl rfl (hb hby own_d9_473) _ ?_
        show Steps p.tables e below (T270.setTop (mkF m 474 #[.val (.ref ar), .val (.int n1)] [(.int c1), (.int 1), (.ref b266), (.ref b266), (.ref b264), (.ref b264)])) _
        refine st274 _ ?_
        show Steps p.tables e below (T274.setTop (mkF m 475 #[.val (.ref ar), .val (.int n1)] [(.ref b266), (.ref b264), (.ref b264)])) _
        refine XS.dup X274.here hx rfl (hb hby own_d9_475) rfl rfl ?_
        show Steps p.tables e below (T274.setTop (mkF m 476 #[.val (.ref ar), .val (.int n1)] [(.ref b266), (.ref b266), (.ref b264), (.ref b264)])) _
        refine XS.iconst X274.here hx rfl (hb hby own_d9_476) ?_
        show Steps p.tables e below (T274.setTop (mkF m 477 #[.val (.ref ar), .val (.int n1)] [(.int 2), (.ref b266), (.ref b266), (.ref b264), (.ref b264)])) _
        refine XS.aloadN X274.here hx rfl (hb hby own_d9_477) rfl rfl ?_
        show Steps p.tables e below (T274.setTop (mkF m 478 #[.val (.ref ar), .val (.int n1)] [(.ref ar), (.int 2), (.ref b266), (.ref b266), (.ref b264), (.ref b264)])) _
        refine XS.iconst X274.here hx rfl (hb hby own_d9_478) ?_
        show Steps p.tables e below (T274.setTop (mkF m 479 #[.val (.ref ar), .val (.int n1)] [(.int 2), (.ref ar), (.int 2), (.ref b266), (.ref b266), (.ref b264), (.ref b264)])) _
        refine X274.caload hx (j := (2 : Int32)) (v := (.int c2)) (by rw [e274]; exact Ar276.1) (State.isArrayOf_alike hZ.alike Ar276.2.1) Ar276.2.2 hin276 (H276.at hin276 rfl) (g := (mkF m 479 #[.val (.ref ar), .val (.int n1)] [(.int 2), (.ref ar), (.int 2), (.ref b266), (.ref b266), (.ref b264), (.ref b264)])) rfl rfl (hb hby own_d9_479) _ ?_
        show Steps p.tables e below (T274.setTop (mkF m 480 #[.val (.ref ar), .val (.int n1)] [(.int c2), (.int 2), (.ref b266), (.ref b266), (.ref b264), (.ref b264)])) _
        refine st278 _ ?_
        show Steps p.tables e below (T278.setTop (mkF m 481 #[.val (.ref ar), .val (.int n1)] [(.ref b266), (.ref b264), (.ref b264)])) _
        refine XS.dup X278.here hx rfl (hb hby own_d9_481) rfl rfl ?_
        show Steps p.tables e below (T278.setTop (mkF m 482 #[.val (.ref ar), .val (.int n1)] [(.ref b266), (.ref b266), (.ref b264), (.ref b264)])) _
        refine XS.iconst X278.here hx rfl (hb hby own_d9_482) ?_
        show Steps p.tables e below (T278.setTop (mkF m 483 #[.val (.ref ar), .val (.int n1)] [(.int 3), (.ref b266), (.ref b266), (.ref b264), (.ref b264)])) _
        refine XS.aloadN X278.here hx rfl (hb hby own_d9_483) rfl rfl ?_
        show Steps p.tables e below (T278.setTop (mkF m 484 #[.val (.ref ar), .val (.int n1)] [(.ref ar), (.int 3), (.ref b266), (.ref b266), (.ref b264), (.ref b264)])) _
        refine XS.iconst X278.here hx rfl (hb hby own_d9_484) ?_
        show Steps p.tables e below (T278.setTop (mkF m 485 #[.val (.ref ar), .val (.int n1)] [(.int 3), (.ref ar), (.int 3), (.ref b266), (.ref b266), (.ref b264), (.ref b264)])) _
        refine X278.caload hx (j := (3 : Int32)) (v := (.int c3)) (by rw [e278]; exact Ar280.1) (State.isArrayOf_alike hZ.alike Ar280.2.1) Ar280.2.2 hin280 (H280.at hin280 rfl) (g := (mkF m 485 #[.val (.ref ar), .val (.int n1)] [(.int 3), (.ref ar), (.int 3), (.ref b266), (.ref b266), (.ref b264), (.ref b264)])) rfl rfl (hb hby own_d9_485) _ ?_
        show Steps p.tables e below (T278.setTop (mkF m 486 #[.val (.ref ar), .val (.int n1)] [(.int c3), (.int 3), (.ref b266), (.ref b266), (.ref b264), (.ref b264)])) _
        refine st282 _ ?_
        show Steps p.tables e below (T282.setTop (mkF m 487 #[.val (.ref ar), .val (.int n1)] [(.ref b266), (.ref b264), (.ref b264)])) _
        refine XS.dup X282.here hx rfl (hb hby own_d9_487) rfl rfl ?_
        show Steps p.tables e below (T282.setTop (mkF m 488 #[.val (.ref ar), .val (.int n1)] [(.ref b266), (.ref b266), (.ref b264), (.ref b264)])) _
        refine XS.iconst X282.here hx rfl (hb hby own_d9_488) ?_
        show Steps p.tables e below (T282.setTop (mkF m 489 #[.val (.ref ar), .val (.int n1)] [(.int 4), (.ref b266), (.ref b266), (.ref b264), (.ref b264)])) _
        refine XS.aloadN X282.here hx rfl (hb hby own_d9_489) rfl rfl ?_
        show Steps p.tables e below (T282.setTop (mkF m 490 #[.val (.ref ar), .val (.int n1)] [(.ref ar), (.int 4), (.ref b266), (.ref b266), (.ref b264), (.ref b264)])) _
        refine XS.iconst X282.here hx rfl (hb hby own_d9_490) ?_
        show Steps p.tables e below (T282.setTop (mkF m 491 #[.val (.ref ar), .val (.int n1)] [(.int 4), (.ref ar), (.int 4), (.ref b266), (.ref b266), (.ref b264), (.ref b264)])) _
        refine X282.caload hx (j := (4 : Int32)) (v := (.int c4)) (by rw [e282]; exact Ar284.1) (State.isArrayOf_alike hZ.alike Ar284.2.1) Ar284.2.2 hin284 (H284.at hin284 rfl) (g := (mkF m 491 #[.val (.ref ar), .val (.int n1)] [(.int 4), (.ref ar), (.int 4), (.ref b266), (.ref b266), (.ref b264), (.ref b264)])) rfl rfl (hb hby own_d9_491) _ ?_
        show Steps p.tables e below (T282.setTop (mkF m 492 #[.val (.ref ar), .val (.int n1)] [(.int c4), (.int 4), (.ref b266), (.ref b266), (.ref b264), (.ref b264)])) _
        refine st286 _ ?_
        show Steps p.tables e below (T286.setTop (mkF m 493 #[.val (.ref ar), .val (.int n1)] [(.ref b266), (.ref b264), (.ref b264)])) _
        refine XS.dup X286.here hx rfl (hb hby own_d9_493) rfl rfl ?_
        show Steps p.tables e below (T286.setTop (mkF m 494 #[.val (.ref ar), .val (.int n1)] [(.ref b266), (.ref b266), (.ref b264), (.ref b264)])) _
        refine XS.iconst X286.here hx rfl (hb hby own_d9_494) ?_
        show Steps p.tables e below (T286.setTop (mkF m 495 #[.val (.ref ar), .val (.int n1)] [(.int 5), (.ref b266), (.ref b266), (.ref b264), (.ref b264)])) _
        refine XS.aloadN X286.here hx rfl (hb hby own_d9_495) rfl rfl ?_
        show Steps p.tables e below (T286.setTop (mkF m 496 #[.val (.ref ar), .val (.int n1)] [(.ref ar), (.int 5), (.ref b266), (.ref b266), (.ref b264), (.ref b264)])) _
        refine XS.iconst X286.here hx rfl (hb hby own_d9_496) ?_
        show Steps p.tables e below (T286.setTop (mkF m 497 #[.val (.ref ar), .val (.int n1)] [(.int 5), (.ref ar), (.int 5), (.ref b266), (.ref b266), (.ref b264), (.ref b264)])) _
        refine X286.caload hx (j := (5 : Int32)) (v := (.int c5)) (by rw [e286]; exact Ar288.1) (State.isArrayOf_alike hZ.alike Ar288.2.1) Ar288.2.2 hin288 (H288.at hin288 rfl) (g := (mkF m 497 #[.val (.ref ar), .val (.int n1)] [(.int 5), (.ref ar), (.int 5), (.ref b266), (.ref b266), (.ref b264), (.ref b264)])) rfl rfl (hb hby own_d9_497) _ ?_
        show Steps p.tables e below (T286.setTop (mkF m 498 #[.val (.ref ar), .val (.int n1)] [(.int c5), (.int 5), (.ref b266), (.ref b266), (.ref b264), (.ref b264)])) _
        refine st290 _ ?_
        show Steps p.tables e below (T290.setTop (mkF m 499 #[.val (.ref ar), .val (.int n1)] [(.ref b266), (.ref b264), (.ref b264)])) _
        refine XS.dup X290.here hx rfl (hb hby own_d9_499) rfl rfl ?_
        show Steps p.tables e below (T290.setTop (mkF m 500 #[.val (.ref ar), .val (.int n1)] [(.ref b266), (.ref b266), (.ref b264), (.ref b264)])) _
        refine XS.bipush X290.here hx rfl (hb hby own_d9_500) ?_
        show Steps p.tables e below (T290.setTop (mkF m 502 #[.val (.ref ar), .val (.int n1)] [(.int 6), (.ref b266), (.ref b266), (.ref b264), (.ref b264)])) _
        refine XS.aloadN X290.here hx rfl (hb hby own_d9_502) rfl rfl ?_
        show Steps p.tables e below (T290.setTop (mkF m 503 #[.val (.ref ar), .val (.int n1)] [(.ref ar), (.int 6), (.ref b266), (.ref b266), (.ref b264), (.ref b264)])) _
        refine XS.bipush X290.here hx rfl (hb hby own_d9_503) ?_
        show Steps p.tables e below (T290.setTop (mkF m 505 #[.val (.ref ar), .val (.int n1)] [(.int 6), (.ref ar), (.int 6), (.ref b266), (.ref b266), (.ref b264), (.ref b264)])) _
        refine X290.caload hx (j := (6 : Int32)) (v := (.int c6)) (by rw [e290]; exact Ar292.1) (State.isArrayOf_alike hZ.alike Ar292.2.1) Ar292.2.2 hin292 (H292.at hin292 rfl) (g := (mkF m 505 #[.val (.ref ar), .val (.int n1)] [(.int 6), (.ref ar), (.int 6), (.ref b266), (.ref b266), (.ref b264), (.ref b264)])) rfl rfl (hb hby own_d9_505) _ ?_
        show Steps p.tables e below (T290.setTop (mkF m 506 #[.val (.ref ar), .val (.int n1)] [(.int c6), (.int 6), (.ref b266), (.ref b266), (.ref b264), (.ref b264)])) _
        refine st294 _ ?_
        show Steps p.tables e below (T294.setTop (mkF m 507 #[.val (.ref ar), .val (.int n1)] [(.ref b266), (.ref b264), (.ref b264)])) _
        refine XS.dup X294.here hx rfl (hb hby own_d9_507) rfl rfl ?_
        show Steps p.tables e below (T294.setTop (mkF m 508 #[.val (.ref ar), .val (.int n1)] [(.ref b266), (.ref b266), (.ref b264), (.ref b264)])) _
        refine XS.bipush X294.here hx rfl (hb hby own_d9_508) ?_
        show Steps p.tables e below (T294.setTop (mkF m 510 #[.val (.ref ar), .val (.int n1)] [(.int 7), (.ref b266), (.ref b266), (.ref b264), (.ref b264)])) _
        refine XS.aloadN X294.here hx rfl (hb hby own_d9_510) rfl rfl ?_
        show Steps p.tables e below (T294.setTop (mkF m 511 #[.val (.ref ar), .val (.int n1)] [(.ref ar), (.int 7), (.ref b266), (.ref b266), (.ref b264), (.ref b264)])) _
        refine XS.bipush X294.here hx rfl (hb hby own_d9_511) ?_
        show Steps p.tables e below (T294.setTop (mkF m 513 #[.val (.ref ar), .val (.int n1)] [(.int 7), (.ref ar), (.int 7), (.ref b266), (.ref b266), (.ref b264), (.ref b264)])) _
        refine X294.caload hx (j := (7 : Int32)) (v := (.int c7)) (by rw [e294]; exact Ar296.1) (State.isArrayOf_alike hZ.alike Ar296.2.1) Ar296.2.2 hin296 (H296.at hin296 rfl) (g := (mkF m 513 #[.val (.ref ar), .val (.int n1)] [(.int 7), (.ref ar), (.int 7), (.ref b266), (.ref b266), (.ref b264), (.ref b264)])) rfl rfl (hb hby own_d9_513) _ ?_
        show Steps p.tables e below (T294.setTop (mkF m 514 #[.val (.ref ar), .val (.int n1)] [(.int c7), (.int 7), (.ref b266), (.ref b266), (.ref b264), (.ref b264)])) _
        refine st298 _ ?_
        show Steps p.tables e below (T298.setTop (mkF m 515 #[.val (.ref ar), .val (.int n1)] [(.ref b266), (.ref b264), (.ref b264)])) _
        refine XS.dup X298.here hx rfl (hb hby own_d9_515) rfl rfl ?_
        show Steps p.tables e below (T298.setTop (mkF m 516 #[.val (.ref ar), .val (.int n1)] [(.ref b266), (.ref b266), (.ref b264), (.ref b264)])) _
        refine XS.bipush X298.here hx rfl (hb hby own_d9_516) ?_
        show Steps p.tables e below (T298.setTop (mkF m 518 #[.val (.ref ar), .val (.int n1)] [(.int 8), (.ref b266), (.ref b266), (.ref b264), (.ref b264)])) _
        refine XS.aloadN X298.here hx rfl (hb hby own_d9_518) rfl rfl ?_
        show Steps p.tables e below (T298.setTop (mkF m 519 #[.val (.ref ar), .val (.int n1)] [(.ref ar), (.int 8), (.ref b266), (.ref b266), (.ref b264), (.ref b264)])) _
        refine XS.bipush X298.here hx rfl (hb hby own_d9_519) ?_
        show Steps p.tables e below (T298.setTop (mkF m 521 #[.val (.ref ar), .val (.int n1)] [(.int 8), (.ref ar), (.int 8), (.ref b266), (.ref b266), (.ref b264), (.ref b264)])) _
        refine X298.caload hx (j := (8 : Int32)) (v := (.int c8)) (by rw [e298]; exact Ar300.1) (State.isArrayOf_alike hZ.alike Ar300.2.1) Ar300.2.2 hin300 (H300.at hin300 rfl) (g := (mkF m 521 #[.val (.ref ar), .val (.int n1)] [(.int 8), (.ref ar), (.int 8), (.ref b266), (.ref b266), (.ref b264), (.ref b264)])) rfl rfl (hb hby own_d9_521) _ ?_
        show Steps p.tables e below (T298.setTop (mkF m 522 #[.val (.ref ar), .val (.int n1)] [(.int c8), (.int 8), (.ref b266), (.ref b266), (.ref b264), (.ref b264)])) _
        refine st302 _ ?_
        show Steps p.tables e below (T302.setTop (mkF m 523 #[.val (.ref ar), .val (.int n1)] [(.ref b266), (.ref b264), (.ref b264)])) _
        refine XS.dup X302.here hx rfl (hb hby own_d9_523) rfl rfl ?_
        show Steps p.tables e below (T302.setTop (mkF m 524 #[.val (.ref ar), .val (.int n1)] [(.ref b266), (.ref b266), (.ref b264), (.ref b264)])) _
        refine XS.bipush X302.here hx rfl (hb hby own_d9_524) ?_
        show Steps p.tables e below (T302.setTop (mkF m 526 #[.val (.ref ar), .val (.int n1)] [(.int 9), (.ref b266), (.ref b266), (.ref b264), (.ref b264)])) _
        refine XS.aloadN X302.here hx rfl (hb hby own_d9_526) rfl rfl ?_
        show Steps p.tables e below (T302.setTop (mkF m 527 #[.val (.ref ar), .val (.int n1)] [(.ref ar), (.int 9), (.ref b266), (.ref b266), (.ref b264), (.ref b264)])) _
        refine XS.bipush X302.here hx rfl (hb hby own_d9_527) ?_
        show Steps p.tables e below (T302.setTop (mkF m 529 #[.val (.ref ar), .val (.int n1)] [(.int 9), (.ref ar), (.int 9), (.ref b266), (.ref b266), (.ref b264), (.ref b264)])) _
        refine X302.caload hx (j := (9 : Int32)) (v := (.int c9)) (by rw [e302]; exact Ar304.1) (State.isArrayOf_alike hZ.alike Ar304.2.1) Ar304.2.2 hin304 (H304.at hin304 rfl) (g := (mkF m 529 #[.val (.ref ar), .val (.int n1)] [(.int 9), (.ref ar), (.int 9), (.ref b266), (.ref b266), (.ref b264), (.ref b264)])) rfl rfl (hb hby own_d9_529) _ ?_
        show Steps p.tables e below (T302.setTop (mkF m 530 #[.val (.ref ar), .val (.int n1)] [(.int c9), (.int 9), (.ref b266), (.ref b266), (.ref b264), (.ref b264)])) _
        refine st306 _ ?_
        show Steps p.tables e below (T306.setTop (mkF m 531 #[.val (.ref ar), .val (.int n1)] [(.ref b266), (.ref b264), (.ref b264)])) _
        refine st308.trans ?_
        show Steps p.tables e below (T308.setTop (mkF m 534 #[.val (.ref ar), .val (.int n1)] [(.ref b264)])) _
        exact retOut X308 hx (t := (.object "java/lang/String")) Bd.returns rfl (Or.inr (Or.inr (Or.inr (Or.inr ⟨rfl, rfl, rfl⟩)))) (hb hby own_d9_534) hr
      have hnk : nn = 10 := own_nk hnn hc263 hn13 (by decide)
      · show own_Q_own_prefix Z ar n1 Ts cz ka AA nn h0 n0 _ T308.heap _
        subst hnk
        exact ⟨b264, b308, kb308, rfl, N308, KP, Ee308, Fc308, Fv308, by rw [eA]; exact VB308⟩
  have pre310 : ∀ t, Steps p.tables e below (s₁.setTop (mkF m 538 #[.val (.ref ar), .val (.int n1)] [(.int 11), (.int n1)])) t → Steps p.tables e below (s₁.setTop (entryFrame m #[(.ref ar), (.int n1)] 2)) t := fun t k => pre262 t (by
    refine XS.icmpYes X0.here hx rfl (pc0 := 452) (pc' := 535) rfl (hb hby own_d9_452) rfl (feq hc263).2 (by decide) (by decide) ?_
    show Steps p.tables e below (s₁.setTop (mkF m 535 #[.val (.ref ar), .val (.int n1)] [])) _
    refine XS.iloadN X0.here hx rfl (hb hby own_d9_535) rfl ?_
    show Steps p.tables e below (s₁.setTop (mkF m 536 #[.val (.ref ar), .val (.int n1)] [(.int n1)])) _
    refine XS.bipush X0.here hx rfl (hb hby own_d9_536) ?_
    show Steps p.tables e below (s₁.setTop (mkF m 538 #[.val (.ref ar), .val (.int n1)] [(.int 11), (.int n1)])) _
    exact k)
  by_cases hc311 : n1 = (11 : Int32)
  · skip
    as_aux_lemma =>
      obtain ⟨T312, h312, X312, e312, E312, A312, D312, U312, st312⟩ := newO X0 hx hZ hown (hw _ (own_m (i := 54) rfl)) (hw _ (own_m (i := 2) rfl)) (hw _ (own_m (i := 1) rfl)) e0 (g := (mkF m 541 #[.val (.ref ar), .val (.int n1)] [])) rfl (hb hby own_d9_541) (by decide) (by decide)
      obtain ⟨b312, g312⟩ : ∃ z, z = h0.size := ⟨_, rfl⟩
      rw [← g312] at A312 D312 U312 st312
      have g_b312 : n0 ≤ b312 := Nat.le_trans Z0 (Nat.le_of_eq g312.symm)
      have sz_b312 : h0.size ≤ b312 := Nat.le_trans KP.1 (Nat.le_of_eq g312.symm)
      have ne_ar_b312 : ar ≠ b312 := Nat.ne_of_lt (Nat.lt_of_lt_of_le Va.lt (Nat.le_of_eq g312.symm))
      have O := O.ext E312
      have Va := Va.ext E312
      have hk := Nat.le_trans hk E312.1
      have Z313 : n0 ≤ h312.size := Nat.le_trans Z0 E312.1
      have KP := KP.ext E312
      have F_value_b312 : Fld Z h312 b312 "java/lang/String" "value" "[B" .null := D312 (Or.inr (hw _ (own_m (i := 4) rfl))) (ty := (.array .byte)) (by decide)
      have F_coder_b312 : Fld Z h312 b312 "java/lang/String" "coder" "B" (.int 0) := D312 (Or.inr (hw _ (own_m (i := 5) rfl))) (ty := .byte) (by decide)
      have E_b312 := A312
      obtain ⟨T314, h314, k314, X314, e314, E314, A314, st314⟩ := newP X312 hx hZ (hw _ (own_m (i := 24) rfl)) e312 (g := (mkF m 547 #[.val (.ref ar), .val (.int n1)] [(.int 11), (.ref b312), (.ref b312)])) rfl (hb hby own_d9_547) rfl (by decide) (cap := 11) (by decide) (by decide) (by decide) (by decide)
      obtain ⟨b314, g314⟩ : ∃ z, z = h312.size := ⟨_, rfl⟩
      rw [← g314] at A314 st314
      have g_b314 : n0 ≤ b314 := Nat.le_trans Z313 (Nat.le_of_eq g314.symm)
      have sz_b314 : h0.size ≤ b314 := Nat.le_trans KP.1 (Nat.le_of_eq g314.symm)
      have ne_ar_b314 : ar ≠ b314 := Nat.ne_of_lt (Nat.lt_of_lt_of_le Va.lt (Nat.le_of_eq g314.symm))
      have ne_b312_b314 : b312 ≠ b314 := Nat.ne_of_lt (Nat.lt_of_lt_of_le F_value_b312.lt (Nat.le_of_eq g314.symm))
      have O := O.ext E314
      have Va := Va.ext E314
      have F_value_b312 := F_value_b312.ext E314
      have F_coder_b312 := F_coder_b312.ext E314
      have E_b312 := E_b312.ext E314
      have hk := Nat.le_trans hk E314.1
      have Z315 : n0 ≤ h314.size := Nat.le_trans Z313 E314.1
      have KP := KP.ext E314
      have V_b314 : Arv Z h314 b314 k314 .char (11 : Int32) [(.int 0), (.int 0), (.int 0), (.int 0), (.int 0), (.int 0), (.int 0), (.int 0), (.int 0), (.int 0), (.int 0)] (.int 0) := (Arv.new A314 (by decide)).pad (pad_rep [] (.int 0) 11)
      obtain ⟨cl316, Ar316, q316, S316, M316, H316, G316⟩ := id Va
      have hin316 : ¬ ((0 : Int32) < 0 ∨ cl316.slots.size ≤ ((0 : Int32)).toNatClampNeg) := inb_of S316 ⟨by decide, by decide⟩
      obtain ⟨cl317, Ar317, q317, S317, M317, H317, G317⟩ := id V_b314
      have hin317 : ¬ ((0 : Int32) < 0 ∨ cl317.slots.size ≤ ((0 : Int32)).toNatClampNeg) := inb_of S317 ⟨by decide, by decide⟩
      obtain ⟨T318, h318, X318, e318, W318, st318⟩ := stC X314 hx hZ e314 Ar317 (j := (0 : Int32)) hin317 (g := (mkF m 554 #[.val (.ref ar), .val (.int n1)] [(.int c0), (.int 0), (.ref b314), (.ref b314), (.ref b312), (.ref b312)])) rfl rfl (hb hby own_d9_554)
      have O := O.wr W318 g_b314
      have Va := Va.other W318 ne_ar_b314
      have F_value_b312 := F_value_b312.other W318 (Or.inl ne_b312_b314)
      have F_coder_b312 := F_coder_b312.other W318 (Or.inl ne_b312_b314)
      have E_b312 := E_b312.wr W318
      have hk := Nat.le_trans hk (Keep.of_wr W318).1
      have Z319 : n0 ≤ h318.size := Nat.le_trans Z315 (Keep.of_wr W318).1
      have KP := KP.wr W318 (Or.inr sz_b314)
      have V_b314 := Arv.set Ar317 q317 S317 M317 H317 G317 (fits_nar_char _) W318 0 rfl (Nat.le_of_ble_eq_true rfl)
      have V_b314 : Arv Z h318 b314 k314 .char (11 : Int32) [(.int c0), (.int 0), (.int 0), (.int 0), (.int 0), (.int 0), (.int 0), (.int 0), (.int 0), (.int 0), (.int 0)] (.int 0) := by have q := V_b314; simp only [nc0, List.set] at q; exact q
      have N318 := Fr.snoc X318 N0 g_b314
      obtain ⟨cl320, Ar320, q320, S320, M320, H320, G320⟩ := id Va
      have hin320 : ¬ ((1 : Int32) < 0 ∨ cl320.slots.size ≤ ((1 : Int32)).toNatClampNeg) := inb_of S320 ⟨by decide, by decide⟩
      obtain ⟨cl321, Ar321, q321, S321, M321, H321, G321⟩ := id V_b314
      have hin321 : ¬ ((1 : Int32) < 0 ∨ cl321.slots.size ≤ ((1 : Int32)).toNatClampNeg) := inb_of S321 ⟨by decide, by decide⟩
      obtain ⟨T322, h322, X322, e322, W322, st322⟩ := stC X318 hx hZ e318 Ar321 (j := (1 : Int32)) hin321 (g := (mkF m 560 #[.val (.ref ar), .val (.int n1)] [(.int c1), (.int 1), (.ref b314), (.ref b314), (.ref b312), (.ref b312)])) rfl rfl (hb hby own_d9_560)
      have O := O.wr W322 g_b314
      have Va := Va.other W322 ne_ar_b314
      have F_value_b312 := F_value_b312.other W322 (Or.inl ne_b312_b314)
      have F_coder_b312 := F_coder_b312.other W322 (Or.inl ne_b312_b314)
      have E_b312 := E_b312.wr W322
      have hk := Nat.le_trans hk (Keep.of_wr W322).1
      have Z323 : n0 ≤ h322.size := Nat.le_trans Z319 (Keep.of_wr W322).1
      have KP := KP.wr W322 (Or.inr sz_b314)
      have V_b314 := Arv.set Ar321 q321 S321 M321 H321 G321 (fits_nar_char _) W322 1 rfl (Nat.le_of_ble_eq_true rfl)
      have V_b314 : Arv Z h322 b314 k314 .char (11 : Int32) [(.int c0), (.int c1), (.int 0), (.int 0), (.int 0), (.int 0), (.int 0), (.int 0), (.int 0), (.int 0), (.int 0)] (.int 0) := by have q := V_b314; simp only [nc1, List.set] at q; exact q
      have N322 := Fr.snoc X322 N318 g_b314
      obtain ⟨cl324, Ar324, q324, S324, M324, H324, G324⟩ := id Va
      have hin324 : ¬ ((2 : Int32) < 0 ∨ cl324.slots.size ≤ ((2 : Int32)).toNatClampNeg) := inb_of S324 ⟨by decide, by decide⟩
      obtain ⟨cl325, Ar325, q325, S325, M325, H325, G325⟩ := id V_b314
      have hin325 : ¬ ((2 : Int32) < 0 ∨ cl325.slots.size ≤ ((2 : Int32)).toNatClampNeg) := inb_of S325 ⟨by decide, by decide⟩
      obtain ⟨T326, h326, X326, e326, W326, st326⟩ := stC X322 hx hZ e322 Ar325 (j := (2 : Int32)) hin325 (g := (mkF m 566 #[.val (.ref ar), .val (.int n1)] [(.int c2), (.int 2), (.ref b314), (.ref b314), (.ref b312), (.ref b312)])) rfl rfl (hb hby own_d9_566)
      have O := O.wr W326 g_b314
      have Va := Va.other W326 ne_ar_b314
      have F_value_b312 := F_value_b312.other W326 (Or.inl ne_b312_b314)
      have F_coder_b312 := F_coder_b312.other W326 (Or.inl ne_b312_b314)
      have E_b312 := E_b312.wr W326
      have hk := Nat.le_trans hk (Keep.of_wr W326).1
      have Z327 : n0 ≤ h326.size := Nat.le_trans Z323 (Keep.of_wr W326).1
      have KP := KP.wr W326 (Or.inr sz_b314)
      have V_b314 := Arv.set Ar325 q325 S325 M325 H325 G325 (fits_nar_char _) W326 2 rfl (Nat.le_of_ble_eq_true rfl)
      have V_b314 : Arv Z h326 b314 k314 .char (11 : Int32) [(.int c0), (.int c1), (.int c2), (.int 0), (.int 0), (.int 0), (.int 0), (.int 0), (.int 0), (.int 0), (.int 0)] (.int 0) := by have q := V_b314; simp only [nc2, List.set] at q; exact q
      have N326 := Fr.snoc X326 N322 g_b314
      obtain ⟨cl328, Ar328, q328, S328, M328, H328, G328⟩ := id Va
      have hin328 : ¬ ((3 : Int32) < 0 ∨ cl328.slots.size ≤ ((3 : Int32)).toNatClampNeg) := inb_of S328 ⟨by decide, by decide⟩
      obtain ⟨cl329, Ar329, q329, S329, M329, H329, G329⟩ := id V_b314
      have hin329 : ¬ ((3 : Int32) < 0 ∨ cl329.slots.size ≤ ((3 : Int32)).toNatClampNeg) := inb_of S329 ⟨by decide, by decide⟩
      obtain ⟨T330, h330, X330, e330, W330, st330⟩ := stC X326 hx hZ e326 Ar329 (j := (3 : Int32)) hin329 (g := (mkF m 572 #[.val (.ref ar), .val (.int n1)] [(.int c3), (.int 3), (.ref b314), (.ref b314), (.ref b312), (.ref b312)])) rfl rfl (hb hby own_d9_572)
      have O := O.wr W330 g_b314
      have Va := Va.other W330 ne_ar_b314
      have F_value_b312 := F_value_b312.other W330 (Or.inl ne_b312_b314)
      have F_coder_b312 := F_coder_b312.other W330 (Or.inl ne_b312_b314)
      have E_b312 := E_b312.wr W330
      have hk := Nat.le_trans hk (Keep.of_wr W330).1
      have Z331 : n0 ≤ h330.size := Nat.le_trans Z327 (Keep.of_wr W330).1
      have KP := KP.wr W330 (Or.inr sz_b314)
      have V_b314 := Arv.set Ar329 q329 S329 M329 H329 G329 (fits_nar_char _) W330 3 rfl (Nat.le_of_ble_eq_true rfl)
      have V_b314 : Arv Z h330 b314 k314 .char (11 : Int32) [(.int c0), (.int c1), (.int c2), (.int c3), (.int 0), (.int 0), (.int 0), (.int 0), (.int 0), (.int 0), (.int 0)] (.int 0) := by have q := V_b314; simp only [nc3, List.set] at q; exact q
      have N330 := Fr.snoc X330 N326 g_b314
      obtain ⟨cl332, Ar332, q332, S332, M332, H332, G332⟩ := id Va
      have hin332 : ¬ ((4 : Int32) < 0 ∨ cl332.slots.size ≤ ((4 : Int32)).toNatClampNeg) := inb_of S332 ⟨by decide, by decide⟩
      obtain ⟨cl333, Ar333, q333, S333, M333, H333, G333⟩ := id V_b314
      have hin333 : ¬ ((4 : Int32) < 0 ∨ cl333.slots.size ≤ ((4 : Int32)).toNatClampNeg) := inb_of S333 ⟨by decide, by decide⟩
      obtain ⟨T334, h334, X334, e334, W334, st334⟩ := stC X330 hx hZ e330 Ar333 (j := (4 : Int32)) hin333 (g := (mkF m 578 #[.val (.ref ar), .val (.int n1)] [(.int c4), (.int 4), (.ref b314), (.ref b314), (.ref b312), (.ref b312)])) rfl rfl (hb hby own_d9_578)
      have O := O.wr W334 g_b314
      have Va := Va.other W334 ne_ar_b314
      have F_value_b312 := F_value_b312.other W334 (Or.inl ne_b312_b314)
      have F_coder_b312 := F_coder_b312.other W334 (Or.inl ne_b312_b314)
      have E_b312 := E_b312.wr W334
      have hk := Nat.le_trans hk (Keep.of_wr W334).1
      have Z335 : n0 ≤ h334.size := Nat.le_trans Z331 (Keep.of_wr W334).1
      have KP := KP.wr W334 (Or.inr sz_b314)
      have V_b314 := Arv.set Ar333 q333 S333 M333 H333 G333 (fits_nar_char _) W334 4 rfl (Nat.le_of_ble_eq_true rfl)
      have V_b314 : Arv Z h334 b314 k314 .char (11 : Int32) [(.int c0), (.int c1), (.int c2), (.int c3), (.int c4), (.int 0), (.int 0), (.int 0), (.int 0), (.int 0), (.int 0)] (.int 0) := by have q := V_b314; simp only [nc4, List.set] at q; exact q
      have N334 := Fr.snoc X334 N330 g_b314
      obtain ⟨cl336, Ar336, q336, S336, M336, H336, G336⟩ := id Va
      have hin336 : ¬ ((5 : Int32) < 0 ∨ cl336.slots.size ≤ ((5 : Int32)).toNatClampNeg) := inb_of S336 ⟨by decide, by decide⟩
      obtain ⟨cl337, Ar337, q337, S337, M337, H337, G337⟩ := id V_b314
      have hin337 : ¬ ((5 : Int32) < 0 ∨ cl337.slots.size ≤ ((5 : Int32)).toNatClampNeg) := inb_of S337 ⟨by decide, by decide⟩
      obtain ⟨T338, h338, X338, e338, W338, st338⟩ := stC X334 hx hZ e334 Ar337 (j := (5 : Int32)) hin337 (g := (mkF m 584 #[.val (.ref ar), .val (.int n1)] [(.int c5), (.int 5), (.ref b314), (.ref b314), (.ref b312), (.ref b312)])) rfl rfl (hb hby own_d9_584)
      have O := O.wr W338 g_b314
      have Va := Va.other W338 ne_ar_b314
      have F_value_b312 := F_value_b312.other W338 (Or.inl ne_b312_b314)
      have F_coder_b312 := F_coder_b312.other W338 (Or.inl ne_b312_b314)
      have E_b312 := E_b312.wr W338
      have hk := Nat.le_trans hk (Keep.of_wr W338).1
      have Z339 : n0 ≤ h338.size := Nat.le_trans Z335 (Keep.of_wr W338).1
      have KP := KP.wr W338 (Or.inr sz_b314)
      have V_b314 := Arv.set Ar337 q337 S337 M337 H337 G337 (fits_nar_char _) W338 5 rfl (Nat.le_of_ble_eq_true rfl)
      have V_b314 : Arv Z h338 b314 k314 .char (11 : Int32) [(.int c0), (.int c1), (.int c2), (.int c3), (.int c4), (.int c5), (.int 0), (.int 0), (.int 0), (.int 0), (.int 0)] (.int 0) := by have q := V_b314; simp only [nc5, List.set] at q; exact q
      have N338 := Fr.snoc X338 N334 g_b314
      obtain ⟨cl340, Ar340, q340, S340, M340, H340, G340⟩ := id Va
      have hin340 : ¬ ((6 : Int32) < 0 ∨ cl340.slots.size ≤ ((6 : Int32)).toNatClampNeg) := inb_of S340 ⟨by decide, by decide⟩
      obtain ⟨cl341, Ar341, q341, S341, M341, H341, G341⟩ := id V_b314
      have hin341 : ¬ ((6 : Int32) < 0 ∨ cl341.slots.size ≤ ((6 : Int32)).toNatClampNeg) := inb_of S341 ⟨by decide, by decide⟩
      obtain ⟨T342, h342, X342, e342, W342, st342⟩ := stC X338 hx hZ e338 Ar341 (j := (6 : Int32)) hin341 (g := (mkF m 592 #[.val (.ref ar), .val (.int n1)] [(.int c6), (.int 6), (.ref b314), (.ref b314), (.ref b312), (.ref b312)])) rfl rfl (hb hby own_d9_592)
      have O := O.wr W342 g_b314
      have Va := Va.other W342 ne_ar_b314
      have F_value_b312 := F_value_b312.other W342 (Or.inl ne_b312_b314)
      have F_coder_b312 := F_coder_b312.other W342 (Or.inl ne_b312_b314)
      have E_b312 := E_b312.wr W342
      have hk := Nat.le_trans hk (Keep.of_wr W342).1
      have Z343 : n0 ≤ h342.size := Nat.le_trans Z339 (Keep.of_wr W342).1
      have KP := KP.wr W342 (Or.inr sz_b314)
      have V_b314 := Arv.set Ar341 q341 S341 M341 H341 G341 (fits_nar_char _) W342 6 rfl (Nat.le_of_ble_eq_true rfl)
      have V_b314 : Arv Z h342 b314 k314 .char (11 : Int32) [(.int c0), (.int c1), (.int c2), (.int c3), (.int c4), (.int c5), (.int c6), (.int 0), (.int 0), (.int 0), (.int 0)] (.int 0) := by have q := V_b314; simp only [nc6, List.set] at q; exact q
      have N342 := Fr.snoc X342 N338 g_b314
      obtain ⟨cl344, Ar344, q344, S344, M344, H344, G344⟩ := id Va
      have hin344 : ¬ ((7 : Int32) < 0 ∨ cl344.slots.size ≤ ((7 : Int32)).toNatClampNeg) := inb_of S344 ⟨by decide, by decide⟩
      obtain ⟨cl345, Ar345, q345, S345, M345, H345, G345⟩ := id V_b314
      have hin345 : ¬ ((7 : Int32) < 0 ∨ cl345.slots.size ≤ ((7 : Int32)).toNatClampNeg) := inb_of S345 ⟨by decide, by decide⟩
      obtain ⟨T346, h346, X346, e346, W346, st346⟩ := stC X342 hx hZ e342 Ar345 (j := (7 : Int32)) hin345 (g := (mkF m 600 #[.val (.ref ar), .val (.int n1)] [(.int c7), (.int 7), (.ref b314), (.ref b314), (.ref b312), (.ref b312)])) rfl rfl (hb hby own_d9_600)
      have O := O.wr W346 g_b314
      have Va := Va.other W346 ne_ar_b314
      have F_value_b312 := F_value_b312.other W346 (Or.inl ne_b312_b314)
      have F_coder_b312 := F_coder_b312.other W346 (Or.inl ne_b312_b314)
      have E_b312 := E_b312.wr W346
      have hk := Nat.le_trans hk (Keep.of_wr W346).1
      have Z347 : n0 ≤ h346.size := Nat.le_trans Z343 (Keep.of_wr W346).1
      have KP := KP.wr W346 (Or.inr sz_b314)
      have V_b314 := Arv.set Ar345 q345 S345 M345 H345 G345 (fits_nar_char _) W346 7 rfl (Nat.le_of_ble_eq_true rfl)
      have V_b314 : Arv Z h346 b314 k314 .char (11 : Int32) [(.int c0), (.int c1), (.int c2), (.int c3), (.int c4), (.int c5), (.int c6), (.int c7), (.int 0), (.int 0), (.int 0)] (.int 0) := by have q := V_b314; simp only [nc7, List.set] at q; exact q
      have N346 := Fr.snoc X346 N342 g_b314
      obtain ⟨cl348, Ar348, q348, S348, M348, H348, G348⟩ := id Va
      have hin348 : ¬ ((8 : Int32) < 0 ∨ cl348.slots.size ≤ ((8 : Int32)).toNatClampNeg) := inb_of S348 ⟨by decide, by decide⟩
      obtain ⟨cl349, Ar349, q349, S349, M349, H349, G349⟩ := id V_b314
      have hin349 : ¬ ((8 : Int32) < 0 ∨ cl349.slots.size ≤ ((8 : Int32)).toNatClampNeg) := inb_of S349 ⟨by decide, by decide⟩
      obtain ⟨T350, h350, X350, e350, W350, st350⟩ := stC X346 hx hZ e346 Ar349 (j := (8 : Int32)) hin349 (g := (mkF m 608 #[.val (.ref ar), .val (.int n1)] [(.int c8), (.int 8), (.ref b314), (.ref b314), (.ref b312), (.ref b312)])) rfl rfl (hb hby own_d9_608)
      have O := O.wr W350 g_b314
      have Va := Va.other W350 ne_ar_b314
      have F_value_b312 := F_value_b312.other W350 (Or.inl ne_b312_b314)
      have F_coder_b312 := F_coder_b312.other W350 (Or.inl ne_b312_b314)
      have E_b312 := E_b312.wr W350
      have hk := Nat.le_trans hk (Keep.of_wr W350).1
      have Z351 : n0 ≤ h350.size := Nat.le_trans Z347 (Keep.of_wr W350).1
      have KP := KP.wr W350 (Or.inr sz_b314)
      have V_b314 := Arv.set Ar349 q349 S349 M349 H349 G349 (fits_nar_char _) W350 8 rfl (Nat.le_of_ble_eq_true rfl)
      have V_b314 : Arv Z h350 b314 k314 .char (11 : Int32) [(.int c0), (.int c1), (.int c2), (.int c3), (.int c4), (.int c5), (.int c6), (.int c7), (.int c8), (.int 0), (.int 0)] (.int 0) := by have q := V_b314; simp only [nc8, List.set] at q; exact q
      have N350 := Fr.snoc X350 N346 g_b314
      obtain ⟨cl352, Ar352, q352, S352, M352, H352, G352⟩ := id Va
      have hin352 : ¬ ((9 : Int32) < 0 ∨ cl352.slots.size ≤ ((9 : Int32)).toNatClampNeg) := inb_of S352 ⟨by decide, by decide⟩
      obtain ⟨cl353, Ar353, q353, S353, M353, H353, G353⟩ := id V_b314
      have hin353 : ¬ ((9 : Int32) < 0 ∨ cl353.slots.size ≤ ((9 : Int32)).toNatClampNeg) := inb_of S353 ⟨by decide, by decide⟩
      obtain ⟨T354, h354, X354, e354, W354, st354⟩ := stC X350 hx hZ e350 Ar353 (j := (9 : Int32)) hin353 (g := (mkF m 616 #[.val (.ref ar), .val (.int n1)] [(.int c9), (.int 9), (.ref b314), (.ref b314), (.ref b312), (.ref b312)])) rfl rfl (hb hby own_d9_616)
      have O := O.wr W354 g_b314
      have Va := Va.other W354 ne_ar_b314
      have F_value_b312 := F_value_b312.other W354 (Or.inl ne_b312_b314)
      have F_coder_b312 := F_coder_b312.other W354 (Or.inl ne_b312_b314)
      have E_b312 := E_b312.wr W354
      have hk := Nat.le_trans hk (Keep.of_wr W354).1
      have Z355 : n0 ≤ h354.size := Nat.le_trans Z351 (Keep.of_wr W354).1
      have KP := KP.wr W354 (Or.inr sz_b314)
      have V_b314 := Arv.set Ar353 q353 S353 M353 H353 G353 (fits_nar_char _) W354 9 rfl (Nat.le_of_ble_eq_true rfl)
      have V_b314 : Arv Z h354 b314 k314 .char (11 : Int32) [(.int c0), (.int c1), (.int c2), (.int c3), (.int c4), (.int c5), (.int c6), (.int c7), (.int c8), (.int c9), (.int 0)] (.int 0) := by have q := V_b314; simp only [nc9, List.set] at q; exact q
      have N354 := Fr.snoc X354 N350 g_b314
      obtain ⟨cl356, Ar356, q356, S356, M356, H356, G356⟩ := id Va
      have hin356 : ¬ ((10 : Int32) < 0 ∨ cl356.slots.size ≤ ((10 : Int32)).toNatClampNeg) := inb_of S356 ⟨by decide, by decide⟩
      obtain ⟨cl357, Ar357, q357, S357, M357, H357, G357⟩ := id V_b314
      have hin357 : ¬ ((10 : Int32) < 0 ∨ cl357.slots.size ≤ ((10 : Int32)).toNatClampNeg) := inb_of S357 ⟨by decide, by decide⟩
      obtain ⟨T358, h358, X358, e358, W358, st358⟩ := stC X354 hx hZ e354 Ar357 (j := (10 : Int32)) hin357 (g := (mkF m 624 #[.val (.ref ar), .val (.int n1)] [(.int c10), (.int 10), (.ref b314), (.ref b314), (.ref b312), (.ref b312)])) rfl rfl (hb hby own_d9_624)
      have O := O.wr W358 g_b314
      have Va := Va.other W358 ne_ar_b314
      have F_value_b312 := F_value_b312.other W358 (Or.inl ne_b312_b314)
      have F_coder_b312 := F_coder_b312.other W358 (Or.inl ne_b312_b314)
      have E_b312 := E_b312.wr W358
      have hk := Nat.le_trans hk (Keep.of_wr W358).1
      have Z359 : n0 ≤ h358.size := Nat.le_trans Z355 (Keep.of_wr W358).1
      have KP := KP.wr W358 (Or.inr sz_b314)
      have V_b314 := Arv.set Ar357 q357 S357 M357 H357 G357 (fits_nar_char _) W358 10 rfl (Nat.le_of_ble_eq_true rfl)
      have V_b314 : Arv Z h358 b314 k314 .char (11 : Int32) [(.int c0), (.int c1), (.int c2), (.int c3), (.int c4), (.int c5), (.int c6), (.int c7), (.int c8), (.int c9), (.int c10)] (.int 0) := by have q := V_b314; simp only [nc10, List.set] at q; exact q
      have N358 := Fr.snoc X358 N354 g_b314
      obtain ⟨_, _, ⟨T360, L360, k360, n360⟩, -, X360, ⟨Lc360, hQ360, l360, y360, z360⟩, st360⟩ := X358.specialBack hx (y := (⟨"java/lang/String", "<init>", "([C)V"⟩ : MethodName)) rfl hown (mvT hZ (hw _ (own_m (i := 55) rfl))) (mvT hZ (hw _ (own_m (i := 56) rfl))) (mvT hZ (hw _ (own_m (i := 57) rfl))) (by decide) (StrChars.Road.backV (W := 1) hZ (fun d hd => hw d ((by decide +kernel : ∀ d ∈ StrChars.Road.words, d ∈ tables_1) d hd)) (kI := 4) (hw _ (own_m (i := 2) rfl)) (cs := ([c0, c1, c2, c3, c4, c5, c6, c7, c8, c9, c10] : List Int32)) (bs := List.map (fun c => c.toInt8.toInt32) ([c0, c1, c2, c3, c4, c5, c6, c7, c8, c9, c10] : List Int32)) (n := 11) (n0 := n0) g_b312 Z359 E_b312 F_value_b312 F_coder_b312 V_b314 (S0.ext O.2) hcz rfl rfl (by decide) (by decide) (fun c hc => okA c (List.mem_of_mem_take (i := 11) hc)) rfl (by decide) (by decide)) (g := (mkF m 625 #[.val (.ref ar), .val (.int n1)] [(.ref b314), (.ref b312), (.ref b312)])) rfl (by rw [hml]; rfl) (Steps.refl _) (a := b312) (argsL := [(.ref b314)]) (rest := [(.ref b312)]) (lenOf own_pd4 rfl) rfl (by show 2 * 0 + _ ≤ _; exact Nat.le_of_eq rfl) (hb hby own_d9_625) (fun _ _ => ⟨rfl, e358, (by decide : 2 + 1 ≤ _), (by decide : 15 + 11 ≤ _)⟩)
      dsimp only [Pt.U, Pt.locs, Pt.cells, Pt.slots] at X360 l360 y360 z360 st360 hQ360
      subst l360 y360 z360
      obtain ⟨rfl, N360q, K360, Ee360, Fc360, b360, kb360, g1360, sz360, nx360, Fv360, VB360⟩ := hQ360
      have N360 := Fr.app N358 N360q
      have O := O.keep K360 (allS g_b312 all0)
      have E_b312 := E_b312.keep K360
      have V_b314 := V_b314.keep K360 (ninS (Ne.symm ne_b312_b314) nin0)
      have hk := Nat.le_trans hk K360.1
      have Z361 := Nat.le_trans Z359 K360.1
      have KP := KP.trans K360 (allS (Or.inr sz_b312) all0)
      obtain ⟨fs, hr, hrun, hended, hRW⟩ := X360.leaveW hS hk (v := some (.ref b312)) (fun h => by rw [Bd.returns] at h; cases h)
      refine ⟨_, _, pre310 _ ?_, hrun, hended, _, _, rfl, ?_, hRW.1, hRW.2.1, hRW.2.2.1, hRW.2.2.2.mono (by decide) (by decide)⟩
      · refine XS.icmpNo X0.here hx rfl (hb hby own_d9_538) rfl (teq hc311).2 ?_
        show Steps p.tables e below (s₁.setTop (mkF m 541 #[.val (.ref ar), .val (.int n1)] [])) _
        refine st312 _ ?_
        show Steps p.tables e below (T312.setTop (mkF m 544 #[.val (.ref ar), .val (.int n1)] [(.ref b312)])) _
        refine XS.dup X312.here hx rfl (hb hby own_d9_544) rfl rfl ?_
        show Steps p.tables e below (T312.setTop (mkF m 545 #[.val (.ref ar), .val (.int n1)] [(.ref b312), (.ref b312)])) _
        refine XS.bipush X312.here hx rfl (hb hby own_d9_545) ?_
        show Steps p.tables e below (T312.setTop (mkF m 547 #[.val (.ref ar), .val (.int n1)] [(.int 11), (.ref b312), (.ref b312)])) _
        refine st314 _ ?_
        show Steps p.tables e below (T314.setTop (mkF m 549 #[.val (.ref ar), .val (.int n1)] [(.ref b314), (.ref b312), (.ref b312)])) _
        refine XS.dup X314.here hx rfl (hb hby own_d9_549) rfl rfl ?_
        show Steps p.tables e below (T314.setTop (mkF m 550 #[.val (.ref ar), .val (.int n1)] [(.ref b314), (.ref b314), (.ref b312), (.ref b312)])) _
        refine XS.iconst X314.here hx rfl (hb hby own_d9_550) ?_
        show Steps p.tables e below (T314.setTop (mkF m 551 #[.val (.ref ar), .val (.int n1)] [(.int 0), (.ref b314), (.ref b314), (.ref b312), (.ref b312)])) _
        refine XS.aloadN X314.here hx rfl (hb hby own_d9_551) rfl rfl ?_
        show Steps p.tables e below (T314.setTop (mkF m 552 #[.val (.ref ar), .val (.int n1)] [(.ref ar), (.int 0), (.ref b314), (.ref b314), (.ref b312), (.ref b312)])) _
        refine XS.iconst X314.here hx rfl (hb hby own_d9_552) ?_
        show Steps p.tables e below (T314.setTop (mkF m 553 #[.val (.ref ar), .val (.int n1)] [(.int 0), (.ref ar), (.int 0), (.ref b314), (.ref b314), (.ref b312), (.ref b312)])) _
        refine X314.caload hx (j := (0 : Int32)) (v := (.int c0)) (by rw [e314]; exact Ar316.1) (State.isArrayOf_alike hZ.alike Ar316.2.1) Ar316.2.2 hin316 (H316.at hin316 rfl) (g := (mkF m 553 #[.val (.ref ar), .val (.int n1)] [(.int 0), (.ref ar), (.int 0), (.ref b314), (.ref b314), (.ref b312), (.ref b312)])) rfl rfl (hb hby own_d9_553) _ ?_
        show Steps p.tables e below (T314.setTop (mkF m 554 #[.val (.ref ar), .val (.int n1)] [(.int c0), (.int 0), (.ref b314), (.ref b314), (.ref b312), (.ref b312)])) _
        refine st318 _ ?_
        show Steps p.tables e below (T318.setTop (mkF m 555 #[.val (.ref ar), .val (.int n1)] [(.ref b314), (.ref b312), (.ref b312)])) _
        refine XS.dup X318.here hx rfl (hb hby own_d9_555) rfl rfl ?_
        show Steps p.tables e below (T318.setTop (mkF m 556 #[.val (.ref ar), .val (.int n1)] [(.ref b314), (.ref b314), (.ref b312), (.ref b312)])) _
        refine XS.iconst X318.here hx rfl (hb hby own_d9_556) ?_
        show Steps p.tables e below (T318.setTop (mkF m 557 #[.val (.ref ar), .val (.int n1)] [(.int 1), (.ref b314), (.ref b314), (.ref b312), (.ref b312)])) _
        refine XS.aloadN X318.here hx rfl (hb hby own_d9_557) rfl rfl ?_
        show Steps p.tables e below (T318.setTop (mkF m 558 #[.val (.ref ar), .val (.int n1)] [(.ref ar), (.int 1), (.ref b314), (.ref b314), (.ref b312), (.ref b312)])) _
        refine XS.iconst X318.here hx rfl (hb hby own_d9_558) ?_
        show Steps p.tables e below (T318.setTop (mkF m 559 #[.val (.ref ar), .val (.int n1)] [(.int 1), (.ref ar), (.int 1), (.ref b314), (.ref b314), (.ref b312), (.ref b312)])) _
        refine X318.caload hx (j := (1 : Int32)) (v := (.int c1)) (by rw [e318]; exact Ar320.1) (State.isArrayOf_alike hZ.alike Ar320.2.1) Ar320.2.2 hin320 (H320.at hin320 rfl) (g := (mkF m 559 #[.val (.ref ar), .val (.int n1)] [(.int 1), (.ref ar), (.int 1), (.ref b314), (.ref b314), (.ref b312), (.ref b312)])) rfl rfl (hb hby own_d9_559) _ ?_
        show Steps p.tables e below (T318.setTop (mkF m 560 #[.val (.ref ar), .val (.int n1)] [(.int c1), (.int 1), (.ref b314), (.ref b314), (.ref b312), (.ref b312)])) _
        refine st322 _ ?_
        show Steps p.tables e below (T322.setTop (mkF m 561 #[.val (.ref ar), .val (.int n1)] [(.ref b314), (.ref b312), (.ref b312)])) _
        refine XS.dup X322.here hx rfl (hb hby own_d9_561) rfl rfl ?_
        show Steps p.tables e below (T322.setTop (mkF m 562 #[.val (.ref ar), .val (.int n1)] [(.ref b314), (.ref b314), (.ref b312), (.ref b312)])) _
        refine XS.iconst X322.here hx rfl (hb hby own_d9_562) ?_
        show Steps p.tables e below (T322.setTop (mkF m 563 #[.val (.ref ar), .val (.int n1)] [(.int 2), (.ref b314), (.ref b314), (.ref b312), (.ref b312)])) _
        refine XS.aloadN X322.here hx rfl (hb hby own_d9_563) rfl rfl ?_
        show Steps p.tables e below (T322.setTop (mkF m 564 #[.val (.ref ar), .val (.int n1)] [(.ref ar), (.int 2), (.ref b314), (.ref b314), (.ref b312), (.ref b312)])) _
        refine XS.iconst X322.here hx rfl (hb hby own_d9_564) ?_
        show Steps p.tables e below (T322.setTop (mkF m 565 #[.val (.ref ar), .val (.int n1)] [(.int 2), (.ref ar), (.int 2), (.ref b314), (.ref b314), (.ref b312), (.ref b312)])) _
        refine X322.caload hx (j := (2 : Int32)) (v := (.int c2)) (by rw [e322]; exact Ar324.1) (State.isArrayOf_alike hZ.alike Ar324.2.1) Ar324.2.2 hin324 (H324.at hin324 rfl) (g := (mkF m 565 #[.val (.ref ar), .val (.int n1)] [(.int 2), (.ref ar), (.int 2), (.ref b314), (.ref b314), (.ref b312), (.ref b312)])) rfl rfl (hb hby own_d9_565) _ ?_
        show Steps p.tables e below (T322.setTop (mkF m 566 #[.val (.ref ar), .val (.int n1)] [(.int c2), (.int 2), (.ref b314), (.ref b314), (.ref b312), (.ref b312)])) _
        refine st326 _ ?_
        show Steps p.tables e below (T326.setTop (mkF m 567 #[.val (.ref ar), .val (.int n1)] [(.ref b314), (.ref b312), (.ref b312)])) _
        refine XS.dup X326.here hx rfl (hb hby own_d9_567) rfl rfl ?_
        show Steps p.tables e below (T326.setTop (mkF m 568 #[.val (.ref ar), .val (.int n1)] [(.ref b314), (.ref b314), (.ref b312), (.ref b312)])) _
        refine XS.iconst X326.here hx rfl (hb hby own_d9_568) ?_
        show Steps p.tables e below (T326.setTop (mkF m 569 #[.val (.ref ar), .val (.int n1)] [(.int 3), (.ref b314), (.ref b314), (.ref b312), (.ref b312)])) _
        refine XS.aloadN X326.here hx rfl (hb hby own_d9_569) rfl rfl ?_
        show Steps p.tables e below (T326.setTop (mkF m 570 #[.val (.ref ar), .val (.int n1)] [(.ref ar), (.int 3), (.ref b314), (.ref b314), (.ref b312), (.ref b312)])) _
        refine XS.iconst X326.here hx rfl (hb hby own_d9_570) ?_
        show Steps p.tables e below (T326.setTop (mkF m 571 #[.val (.ref ar), .val (.int n1)] [(.int 3), (.ref ar), (.int 3), (.ref b314), (.ref b314), (.ref b312), (.ref b312)])) _
        refine X326.caload hx (j := (3 : Int32)) (v := (.int c3)) (by rw [e326]; exact Ar328.1) (State.isArrayOf_alike hZ.alike Ar328.2.1) Ar328.2.2 hin328 (H328.at hin328 rfl) (g := (mkF m 571 #[.val (.ref ar), .val (.int n1)] [(.int 3), (.ref ar), (.int 3), (.ref b314), (.ref b314), (.ref b312), (.ref b312)])) rfl rfl (hb hby own_d9_571) _ ?_
        show Steps p.tables e below (T326.setTop (mkF m 572 #[.val (.ref ar), .val (.int n1)] [(.int c3), (.int 3), (.ref b314), (.ref b314), (.ref b312), (.ref b312)])) _
        refine st330 _ ?_
        show Steps p.tables e below (T330.setTop (mkF m 573 #[.val (.ref ar), .val (.int n1)] [(.ref b314), (.ref b312), (.ref b312)])) _
        refine XS.dup X330.here hx rfl (hb hby own_d9_573) rfl rfl ?_
        show Steps p.tables e below (T330.setTop (mkF m 574 #[.val (.ref ar), .val (.int n1)] [(.ref b314), (.ref b314), (.ref b312), (.ref b312)])) _
        refine XS.iconst X330.here hx rfl (hb hby own_d9_574) ?_
        show Steps p.tables e below (T330.setTop (mkF m 575 #[.val (.ref ar), .val (.int n1)] [(.int 4), (.ref b314), (.ref b314), (.ref b312), (.ref b312)])) _
        refine XS.aloadN X330.here hx rfl (hb hby own_d9_575) rfl rfl ?_
        show Steps p.tables e below (T330.setTop (mkF m 576 #[.val (.ref ar), .val (.int n1)] [(.ref ar), (.int 4), (.ref b314), (.ref b314), (.ref b312), (.ref b312)])) _
        refine XS.iconst X330.here hx rfl (hb hby own_d9_576) ?_
        show Steps p.tables e below (T330.setTop (mkF m 577 #[.val (.ref ar), .val (.int n1)] [(.int 4), (.ref ar), (.int 4), (.ref b314), (.ref b314), (.ref b312), (.ref b312)])) _
        refine X330.caload hx (j := (4 : Int32)) (v := (.int c4)) (by rw [e330]; exact Ar332.1) (State.isArrayOf_alike hZ.alike Ar332.2.1) Ar332.2.2 hin332 (H332.at hin332 rfl) (g := (mkF m 577 #[.val (.ref ar), .val (.int n1)] [(.int 4), (.ref ar), (.int 4), (.ref b314), (.ref b314), (.ref b312), (.ref b312)])) rfl rfl (hb hby own_d9_577) _ ?_
        show Steps p.tables e below (T330.setTop (mkF m 578 #[.val (.ref ar), .val (.int n1)] [(.int c4), (.int 4), (.ref b314), (.ref b314), (.ref b312), (.ref b312)])) _
        refine st334 _ ?_
        show Steps p.tables e below (T334.setTop (mkF m 579 #[.val (.ref ar), .val (.int n1)] [(.ref b314), (.ref b312), (.ref b312)])) _
        refine XS.dup X334.here hx rfl (hb hby own_d9_579) rfl rfl ?_
        show Steps p.tables e below (T334.setTop (mkF m 580 #[.val (.ref ar), .val (.int n1)] [(.ref b314), (.ref b314), (.ref b312), (.ref b312)])) _
        refine XS.iconst X334.here hx rfl (hb hby own_d9_580) ?_
        show Steps p.tables e below (T334.setTop (mkF m 581 #[.val (.ref ar), .val (.int n1)] [(.int 5), (.ref b314), (.ref b314), (.ref b312), (.ref b312)])) _
        refine XS.aloadN X334.here hx rfl (hb hby own_d9_581) rfl rfl ?_
        show Steps p.tables e below (T334.setTop (mkF m 582 #[.val (.ref ar), .val (.int n1)] [(.ref ar), (.int 5), (.ref b314), (.ref b314), (.ref b312), (.ref b312)])) _
        refine XS.iconst X334.here hx rfl (hb hby own_d9_582) ?_
        show Steps p.tables e below (T334.setTop (mkF m 583 #[.val (.ref ar), .val (.int n1)] [(.int 5), (.ref ar), (.int 5), (.ref b314), (.ref b314), (.ref b312), (.ref b312)])) _
        refine X334.caload hx (j := (5 : Int32)) (v := (.int c5)) (by rw [e334]; exact Ar336.1) (State.isArrayOf_alike hZ.alike Ar336.2.1) Ar336.2.2 hin336 (H336.at hin336 rfl) (g := (mkF m 583 #[.val (.ref ar), .val (.int n1)] [(.int 5), (.ref ar), (.int 5), (.ref b314), (.ref b314), (.ref b312), (.ref b312)])) rfl rfl (hb hby own_d9_583) _ ?_
        show Steps p.tables e below (T334.setTop (mkF m 584 #[.val (.ref ar), .val (.int n1)] [(.int c5), (.int 5), (.ref b314), (.ref b314), (.ref b312), (.ref b312)])) _
        refine st338 _ ?_
        show Steps p.tables e below (T338.setTop (mkF m 585 #[.val (.ref ar), .val (.int n1)] [(.ref b314), (.ref b312), (.ref b312)])) _
        refine XS.dup X338.here hx rfl (hb hby own_d9_585) rfl rfl ?_
        show Steps p.tables e below (T338.setTop (mkF m 586 #[.val (.ref ar), .val (.int n1)] [(.ref b314), (.ref b314), (.ref b312), (.ref b312)])) _
        refine XS.bipush X338.here hx rfl (hb hby own_d9_586) ?_
        show Steps p.tables e below (T338.setTop (mkF m 588 #[.val (.ref ar), .val (.int n1)] [(.int 6), (.ref b314), (.ref b314), (.ref b312), (.ref b312)])) _
        refine XS.aloadN X338.here hx rfl (hb hby own_d9_588) rfl rfl ?_
        show Steps p.tables e below (T338.setTop (mkF m 589 #[.val (.ref ar), .val (.int n1)] [(.ref ar), (.int 6), (.ref b314), (.ref b314), (.ref b312), (.ref b312)])) _
        refine XS.bipush X338.here hx rfl (hb hby own_d9_589) ?_
        show Steps p.tables e below (T338.setTop (mkF m 591 #[.val (.ref ar), .val (.int n1)] [(.int 6), (.ref ar), (.int 6), (.ref b314), (.ref b314), (.ref b312), (.ref b312)])) _
        refine X338.caload hx (j := (6 : Int32)) (v := (.int c6)) (by rw [e338]; exact Ar340.1) (State.isArrayOf_alike hZ.alike Ar340.2.1) Ar340.2.2 hin340 (H340.at hin340 rfl) (g := (mkF m 591 #[.val (.ref ar), .val (.int n1)] [(.int 6), (.ref ar), (.int 6), (.ref b314), (.ref b314), (.ref b312), (.ref b312)])) rfl rfl (hb hby own_d9_591) _ ?_
        show Steps p.tables e below (T338.setTop (mkF m 592 #[.val (.ref ar), .val (.int n1)] [(.int c6), (.int 6), (.ref b314), (.ref b314), (.ref b312), (.ref b312)])) _
        refine st342 _ ?_
        show Steps p.tables e below (T342.setTop (mkF m 593 #[.val (.ref ar), .val (.int n1)] [(.ref b314), (.ref b312), (.ref b312)])) _
        refine XS.dup X342.here hx rfl (hb hby own_d9_593) rfl rfl ?_
        show Steps p.tables e below (T342.setTop (mkF m 594 #[.val (.ref ar), .val (.int n1)] [(.ref b314), (.ref b314), (.ref b312), (.ref b312)])) _
        refine XS.bipush X342.here hx rfl (hb hby own_d9_594) ?_
        show Steps p.tables e below (T342.setTop (mkF m 596 #[.val (.ref ar), .val (.int n1)] [(.int 7), (.ref b314), (.ref b314), (.ref b312), (.ref b312)])) _
        refine XS.aloadN X342.here hx rfl (hb hby own_d9_596) rfl rfl ?_
        show Steps p.tables e below (T342.setTop (mkF m 597 #[.val (.ref ar), .val (.int n1)] [(.ref ar), (.int 7), (.ref b314), (.ref b314), (.ref b312), (.ref b312)])) _
        refine XS.bipush X342.here hx rfl (hb hby own_d9_597) ?_
        show Steps p.tables e below (T342.setTop (mkF m 599 #[.val (.ref ar), .val (.int n1)] [(.int 7), (.ref ar), (.int 7), (.ref b314), (.ref b314), (.ref b312), (.ref b312)])) _
        refine X342.caload hx (j := (7 : Int32)) (v := (.int c7)) (by rw [e342]; exact Ar344.1) (State.isArrayOf_alike hZ.alike Ar344.2.1) Ar344.2.2 hin344 (H344.at hin344 rfl) (g := (mkF m 599 #[.val (.ref ar), .val (.int n1)] [(.int 7), (.ref ar), (.int 7), (.ref b314), (.ref b314), (.ref b312), (.ref b312)])) rfl rfl (hb hby own_d9_599) _ ?_
        show Steps p.tables e below (T342.setTop (mkF m 600 #[.val (.ref ar), .val (.int n1)] [(.int c7), (.int 7), (.ref b314), (.ref b314), (.ref b312), (.ref b312)])) _
        refine st346 _ ?_
        show Steps p.tables e below (T346.setTop (mkF m 601 #[.val (.ref ar), .val (.int n1)] [(.ref b314), (.ref b312), (.ref b312)])) _
        refine XS.dup X346.here hx rfl (hb hby own_d9_601) rfl rfl ?_
        show Steps p.tables e below (T346.setTop (mkF m 602 #[.val (.ref ar), .val (.int n1)] [(.ref b314), (.ref b314), (.ref b312), (.ref b312)])) _
        refine XS.bipush X346.here hx rfl (hb hby own_d9_602) ?_
        show Steps p.tables e below (T346.setTop (mkF m 604 #[.val (.ref ar), .val (.int n1)] [(.int 8), (.ref b314), (.ref b314), (.ref b312), (.ref b312)])) _
        refine XS.aloadN X346.here hx rfl (hb hby own_d9_604) rfl rfl ?_
        show Steps p.tables e below (T346.setTop (mkF m 605 #[.val (.ref ar), .val (.int n1)] [(.ref ar), (.int 8), (.ref b314), (.ref b314), (.ref b312), (.ref b312)])) _
        refine XS.bipush X346.here hx rfl (hb hby own_d9_605) ?_
        show Steps p.tables e below (T346.setTop (mkF m 607 #[.val (.ref ar), .val (.int n1)] [(.int 8), (.ref ar), (.int 8), (.ref b314), (.ref b314), (.ref b312), (.ref b312)])) _
        refine X346.caload hx (j := (8 : Int32)) (v := (.int c8)) (by rw [e346]; exact Ar348.1) (State.isArrayOf_alike hZ.alike Ar348.2.1) Ar348.2.2 hin348 (H348.at hin348 rfl) (g := (mkF m 607 #[.val (.ref ar), .val (.int n1)] [(.int 8), (.ref ar), (.int 8), (.ref b314), (.ref b314), (.ref b312), (.ref b312)])) rfl rfl (hb hby own_d9_607) _ ?_
        show Steps p.tables e below (T346.setTop (mkF m 608 #[.val (.ref ar), .val (.int n1)] [(.int c8), (.int 8), (.ref b314), (.ref b314), (.ref b312), (.ref b312)])) _
        refine st350 _ ?_
        show Steps p.tables e below (T350.setTop (mkF m 609 #[.val (.ref ar), .val (.int n1)] [(.ref b314), (.ref b312), (.ref b312)])) _
        refine XS.dup X350.here hx rfl (hb hby own_d9_609) rfl rfl ?_
        show Steps p.tables e below (T350.setTop (mkF m 610 #[.val (.ref ar), .val (.int n1)] [(.ref b314), (.ref b314), (.ref b312), (.ref b312)])) _
        refine XS.bipush X350.here hx rfl (hb hby own_d9_610) ?_
        show Steps p.tables e below (T350.setTop (mkF m 612 #[.val (.ref ar), .val (.int n1)] [(.int 9), (.ref b314), (.ref b314), (.ref b312), (.ref b312)])) _
        refine XS.aloadN X350.here hx rfl (hb hby own_d9_612) rfl rfl ?_
        show Steps p.tables e below (T350.setTop (mkF m 613 #[.val (.ref ar), .val (.int n1)] [(.ref ar), (.int 9), (.ref b314), (.ref b314), (.ref b312), (.ref b312)])) _
        refine XS.bipush X350.here hx rfl (hb hby own_d9_613) ?_
        show Steps p.tables e below (T350.setTop (mkF m 615 #[.val (.ref ar), .val (.int n1)] [(.int 9), (.ref ar), (.int 9), (.ref b314), (.ref b314), (.ref b312), (.ref b312)])) _
        refine X350.caload hx (j := (9 : Int32)) (v := (.int c9)) (by rw [e350]; exact Ar352.1) (State.isArrayOf_alike hZ.alike Ar352.2.1) Ar352.2.2 hin352 (H352.at hin352 rfl) (g := (mkF m 615 #[.val (.ref ar), .val (.int n1)] [(.int 9), (.ref ar), (.int 9), (.ref b314), (.ref b314), (.ref b312), (.ref b312)])) rfl rfl (hb hby own_d9_615) _ ?_
        show Steps p.tables e below (T350.setTop (mkF m 616 #[.val (.ref ar), .val (.int n1)] [(.int c9), (.int 9), (.ref b314), (.ref b314), (.ref b312), (.ref b312)])) _
        refine st354 _ ?_
        show Steps p.tables e below (T354.setTop (mkF m 617 #[.val (.ref ar), .val (.int n1)] [(.ref b314), (.ref b312), (.ref b312)])) _
        refine XS.dup X354.here hx rfl (hb hby own_d9_617) rfl rfl ?_
        show Steps p.tables e below (T354.setTop (mkF m 618 #[.val (.ref ar), .val (.int n1)] [(.ref b314), (.ref b314), (.ref b312), (.ref b312)])) _
        refine XS.bipush X354.here hx rfl (hb hby own_d9_618) ?_
        show Steps p.tables e below (T354.setTop (mkF m 620 #[.val (.ref ar), .val (.int n1)] [(.int 10), (.ref b314), (.ref b314), (.ref b312), (.ref b312)])) _
        refine XS.aloadN X354.here hx rfl (hb hby own_d9_620) rfl rfl ?_
        show Steps p.tables e below (T354.setTop (mkF m 621 #[.val (.ref ar), .val (.int n1)] [(.ref ar), (.int 10), (.ref b314), (.ref b314), (.ref b312), (.ref b312)])) _
        refine XS.bipush X354.here hx rfl (hb hby own_d9_621) ?_
        show Steps p.tables e below (T354.setTop (mkF m 623 #[.val (.ref ar), .val (.int n1)] [(.int 10), (.ref ar), (.int 10), (.ref b314), (.ref b314), (.ref b312), (.ref b312)])) _
        refine X354.caload hx (j := (10 : Int32)) (v := (.int c10)) (by rw [e354]; exact Ar356.1) (State.isArrayOf_alike hZ.alike Ar356.2.1) Ar356.2.2 hin356 (H356.at hin356 rfl) (g := (mkF m 623 #[.val (.ref ar), .val (.int n1)] [(.int 10), (.ref ar), (.int 10), (.ref b314), (.ref b314), (.ref b312), (.ref b312)])) rfl rfl (hb hby own_d9_623) _ ?_
        show Steps p.tables e below (T354.setTop (mkF m 624 #[.val (.ref ar), .val (.int n1)] [(.int c10), (.int 10), (.ref b314), (.ref b314), (.ref b312), (.ref b312)])) _
        refine st358 _ ?_
        show Steps p.tables e below (T358.setTop (mkF m 625 #[.val (.ref ar), .val (.int n1)] [(.ref b314), (.ref b312), (.ref b312)])) _
        refine st360.trans ?_
        show Steps p.tables e below (T360.setTop (mkF m 628 #[.val (.ref ar), .val (.int n1)] [(.ref b312)])) _
        exact retOut X360 hx (t := (.object "java/lang/String")) Bd.returns rfl (Or.inr (Or.inr (Or.inr (Or.inr ⟨rfl, rfl, rfl⟩)))) (hb hby own_d9_628) hr
      have hnk : nn = 11 := own_nk hnn hc311 hn13 (by decide)
      · show own_Q_own_prefix Z ar n1 Ts cz ka AA nn h0 n0 _ T360.heap _
        subst hnk
        exact ⟨b312, b360, kb360, rfl, N360, KP, Ee360, Fc360, Fv360, by rw [eA]; exact VB360⟩
  have pre362 : ∀ t, Steps p.tables e below (s₁.setTop (mkF m 632 #[.val (.ref ar), .val (.int n1)] [(.int 12), (.int n1)])) t → Steps p.tables e below (s₁.setTop (entryFrame m #[(.ref ar), (.int n1)] 2)) t := fun t k => pre310 t (by
    refine XS.icmpYes X0.here hx rfl (pc0 := 538) (pc' := 629) rfl (hb hby own_d9_538) rfl (feq hc311).2 (by decide) (by decide) ?_
    show Steps p.tables e below (s₁.setTop (mkF m 629 #[.val (.ref ar), .val (.int n1)] [])) _
    refine XS.iloadN X0.here hx rfl (hb hby own_d9_629) rfl ?_
    show Steps p.tables e below (s₁.setTop (mkF m 630 #[.val (.ref ar), .val (.int n1)] [(.int n1)])) _
    refine XS.bipush X0.here hx rfl (hb hby own_d9_630) ?_
    show Steps p.tables e below (s₁.setTop (mkF m 632 #[.val (.ref ar), .val (.int n1)] [(.int 12), (.int n1)])) _
    exact k)
  by_cases hc363 : n1 = (12 : Int32)
  · skip
    as_aux_lemma =>
      obtain ⟨T364, h364, X364, e364, E364, A364, D364, U364, st364⟩ := newO X0 hx hZ hown (hw _ (own_m (i := 54) rfl)) (hw _ (own_m (i := 2) rfl)) (hw _ (own_m (i := 1) rfl)) e0 (g := (mkF m 635 #[.val (.ref ar), .val (.int n1)] [])) rfl (hb hby own_d9_635) (by decide) (by decide)
      obtain ⟨b364, g364⟩ : ∃ z, z = h0.size := ⟨_, rfl⟩
      rw [← g364] at A364 D364 U364 st364
      have g_b364 : n0 ≤ b364 := Nat.le_trans Z0 (Nat.le_of_eq g364.symm)
      have sz_b364 : h0.size ≤ b364 := Nat.le_trans KP.1 (Nat.le_of_eq g364.symm)
      have ne_ar_b364 : ar ≠ b364 := Nat.ne_of_lt (Nat.lt_of_lt_of_le Va.lt (Nat.le_of_eq g364.symm))
      have O := O.ext E364
      have Va := Va.ext E364
      have hk := Nat.le_trans hk E364.1
      have Z365 : n0 ≤ h364.size := Nat.le_trans Z0 E364.1
      have KP := KP.ext E364
      have F_value_b364 : Fld Z h364 b364 "java/lang/String" "value" "[B" .null := D364 (Or.inr (hw _ (own_m (i := 4) rfl))) (ty := (.array .byte)) (by decide)
      have F_coder_b364 : Fld Z h364 b364 "java/lang/String" "coder" "B" (.int 0) := D364 (Or.inr (hw _ (own_m (i := 5) rfl))) (ty := .byte) (by decide)
      have E_b364 := A364
      obtain ⟨T366, h366, k366, X366, e366, E366, A366, st366⟩ := newP X364 hx hZ (hw _ (own_m (i := 24) rfl)) e364 (g := (mkF m 641 #[.val (.ref ar), .val (.int n1)] [(.int 12), (.ref b364), (.ref b364)])) rfl (hb hby own_d9_641) rfl (by decide) (cap := 12) (by decide) (by decide) (by decide) (by decide)
      obtain ⟨b366, g366⟩ : ∃ z, z = h364.size := ⟨_, rfl⟩
      rw [← g366] at A366 st366
      have g_b366 : n0 ≤ b366 := Nat.le_trans Z365 (Nat.le_of_eq g366.symm)
      have sz_b366 : h0.size ≤ b366 := Nat.le_trans KP.1 (Nat.le_of_eq g366.symm)
      have ne_ar_b366 : ar ≠ b366 := Nat.ne_of_lt (Nat.lt_of_lt_of_le Va.lt (Nat.le_of_eq g366.symm))
      have ne_b364_b366 : b364 ≠ b366 := Nat.ne_of_lt (Nat.lt_of_lt_of_le F_value_b364.lt (Nat.le_of_eq g366.symm))
      have O := O.ext E366
      have Va := Va.ext E366
      have F_value_b364 := F_value_b364.ext E366
      have F_coder_b364 := F_coder_b364.ext E366
      have E_b364 := E_b364.ext E366
      have hk := Nat.le_trans hk E366.1
      have Z367 : n0 ≤ h366.size := Nat.le_trans Z365 E366.1
      have KP := KP.ext E366
      have V_b366 : Arv Z h366 b366 k366 .char (12 : Int32) [(.int 0), (.int 0), (.int 0), (.int 0), (.int 0), (.int 0), (.int 0), (.int 0), (.int 0), (.int 0), (.int 0), (.int 0)] (.int 0) := (Arv.new A366 (by decide)).pad (pad_rep [] (.int 0) 12)
      obtain ⟨cl368, Ar368, q368, S368, M368, H368, G368⟩ := id Va
      have hin368 : ¬ ((0 : Int32) < 0 ∨ cl368.slots.size ≤ ((0 : Int32)).toNatClampNeg) := inb_of S368 ⟨by decide, by decide⟩
      obtain ⟨cl369, Ar369, q369, S369, M369, H369, G369⟩ := id V_b366
      have hin369 : ¬ ((0 : Int32) < 0 ∨ cl369.slots.size ≤ ((0 : Int32)).toNatClampNeg) := inb_of S369 ⟨by decide, by decide⟩
      obtain ⟨T370, h370, X370, e370, W370, st370⟩ := stC X366 hx hZ e366 Ar369 (j := (0 : Int32)) hin369 (g := (mkF m 648 #[.val (.ref ar), .val (.int n1)] [(.int c0), (.int 0), (.ref b366), (.ref b366), (.ref b364), (.ref b364)])) rfl rfl (hb hby own_d9_648)
      have O := O.wr W370 g_b366
      have Va := Va.other W370 ne_ar_b366
      have F_value_b364 := F_value_b364.other W370 (Or.inl ne_b364_b366)
      have F_coder_b364 := F_coder_b364.other W370 (Or.inl ne_b364_b366)
      have E_b364 := E_b364.wr W370
      have hk := Nat.le_trans hk (Keep.of_wr W370).1
      have Z371 : n0 ≤ h370.size := Nat.le_trans Z367 (Keep.of_wr W370).1
      have KP := KP.wr W370 (Or.inr sz_b366)
      have V_b366 := Arv.set Ar369 q369 S369 M369 H369 G369 (fits_nar_char _) W370 0 rfl (Nat.le_of_ble_eq_true rfl)
      have V_b366 : Arv Z h370 b366 k366 .char (12 : Int32) [(.int c0), (.int 0), (.int 0), (.int 0), (.int 0), (.int 0), (.int 0), (.int 0), (.int 0), (.int 0), (.int 0), (.int 0)] (.int 0) := by have q := V_b366; simp only [nc0, List.set] at q; exact q
      have N370 := Fr.snoc X370 N0 g_b366
      obtain ⟨cl372, Ar372, q372, S372, M372, H372, G372⟩ := id Va
      have hin372 : ¬ ((1 : Int32) < 0 ∨ cl372.slots.size ≤ ((1 : Int32)).toNatClampNeg) := inb_of S372 ⟨by decide, by decide⟩
      obtain ⟨cl373, Ar373, q373, S373, M373, H373, G373⟩ := id V_b366
      have hin373 : ¬ ((1 : Int32) < 0 ∨ cl373.slots.size ≤ ((1 : Int32)).toNatClampNeg) := inb_of S373 ⟨by decide, by decide⟩
      obtain ⟨T374, h374, X374, e374, W374, st374⟩ := stC X370 hx hZ e370 Ar373 (j := (1 : Int32)) hin373 (g := (mkF m 654 #[.val (.ref ar), .val (.int n1)] [(.int c1), (.int 1), (.ref b366), (.ref b366), (.ref b364), (.ref b364)])) rfl rfl (hb hby own_d9_654)
      have O := O.wr W374 g_b366
      have Va := Va.other W374 ne_ar_b366
      have F_value_b364 := F_value_b364.other W374 (Or.inl ne_b364_b366)
      have F_coder_b364 := F_coder_b364.other W374 (Or.inl ne_b364_b366)
      have E_b364 := E_b364.wr W374
      have hk := Nat.le_trans hk (Keep.of_wr W374).1
      have Z375 : n0 ≤ h374.size := Nat.le_trans Z371 (Keep.of_wr W374).1
      have KP := KP.wr W374 (Or.inr sz_b366)
      have V_b366 := Arv.set Ar373 q373 S373 M373 H373 G373 (fits_nar_char _) W374 1 rfl (Nat.le_of_ble_eq_true rfl)
      have V_b366 : Arv Z h374 b366 k366 .char (12 : Int32) [(.int c0), (.int c1), (.int 0), (.int 0), (.int 0), (.int 0), (.int 0), (.int 0), (.int 0), (.int 0), (.int 0), (.int 0)] (.int 0) := by have q := V_b366; simp only [nc1, List.set] at q; exact q
      have N374 := Fr.snoc X374 N370 g_b366
      obtain ⟨cl376, Ar376, q376, S376, M376, H376, G376⟩ := id Va
      have hin376 : ¬ ((2 : Int32) < 0 ∨ cl376.slots.size ≤ ((2 : Int32)).toNatClampNeg) := inb_of S376 ⟨by decide, by decide⟩
      obtain ⟨cl377, Ar377, q377, S377, M377, H377, G377⟩ := id V_b366
      have hin377 : ¬ ((2 : Int32) < 0 ∨ cl377.slots.size ≤ ((2 : Int32)).toNatClampNeg) := inb_of S377 ⟨by decide, by decide⟩
      obtain ⟨T378, h378, X378, e378, W378, st378⟩ := stC X374 hx hZ e374 Ar377 (j := (2 : Int32)) hin377 (g := (mkF m 660 #[.val (.ref ar), .val (.int n1)] [(.int c2), (.int 2), (.ref b366), (.ref b366), (.ref b364), (.ref b364)])) rfl rfl (hb hby own_d9_660)
      have O := O.wr W378 g_b366
      have Va := Va.other W378 ne_ar_b366
      have F_value_b364 := F_value_b364.other W378 (Or.inl ne_b364_b366)
      have F_coder_b364 := F_coder_b364.other W378 (Or.inl ne_b364_b366)
      have E_b364 := E_b364.wr W378
      have hk := Nat.le_trans hk (Keep.of_wr W378).1
      have Z379 : n0 ≤ h378.size := Nat.le_trans Z375 (Keep.of_wr W378).1
      have KP := KP.wr W378 (Or.inr sz_b366)
      have V_b366 := Arv.set Ar377 q377 S377 M377 H377 G377 (fits_nar_char _) W378 2 rfl (Nat.le_of_ble_eq_true rfl)
      have V_b366 : Arv Z h378 b366 k366 .char (12 : Int32) [(.int c0), (.int c1), (.int c2), (.int 0), (.int 0), (.int 0), (.int 0), (.int 0), (.int 0), (.int 0), (.int 0), (.int 0)] (.int 0) := by have q := V_b366; simp only [nc2, List.set] at q; exact q
      have N378 := Fr.snoc X378 N374 g_b366
      obtain ⟨cl380, Ar380, q380, S380, M380, H380, G380⟩ := id Va
      have hin380 : ¬ ((3 : Int32) < 0 ∨ cl380.slots.size ≤ ((3 : Int32)).toNatClampNeg) := inb_of S380 ⟨by decide, by decide⟩
      obtain ⟨cl381, Ar381, q381, S381, M381, H381, G381⟩ := id V_b366
      have hin381 : ¬ ((3 : Int32) < 0 ∨ cl381.slots.size ≤ ((3 : Int32)).toNatClampNeg) := inb_of S381 ⟨by decide, by decide⟩
      obtain ⟨T382, h382, X382, e382, W382, st382⟩ := stC X378 hx hZ e378 Ar381 (j := (3 : Int32)) hin381 (g := (mkF m 666 #[.val (.ref ar), .val (.int n1)] [(.int c3), (.int 3), (.ref b366), (.ref b366), (.ref b364), (.ref b364)])) rfl rfl (hb hby own_d9_666)
      have O := O.wr W382 g_b366
      have Va := Va.other W382 ne_ar_b366
      have F_value_b364 := F_value_b364.other W382 (Or.inl ne_b364_b366)
      have F_coder_b364 := F_coder_b364.other W382 (Or.inl ne_b364_b366)
      have E_b364 := E_b364.wr W382
      have hk := Nat.le_trans hk (Keep.of_wr W382).1
      have Z383 : n0 ≤ h382.size := Nat.le_trans Z379 (Keep.of_wr W382).1
      have KP := KP.wr W382 (Or.inr sz_b366)
      have V_b366 := Arv.set Ar381 q381 S381 M381 H381 G381 (fits_nar_char _) W382 3 rfl (Nat.le_of_ble_eq_true rfl)
      have V_b366 : Arv Z h382 b366 k366 .char (12 : Int32) [(.int c0), (.int c1), (.int c2), (.int c3), (.int 0), (.int 0), (.int 0), (.int 0), (.int 0), (.int 0), (.int 0), (.int 0)] (.int 0) := by have q := V_b366; simp only [nc3, List.set] at q; exact q
      have N382 := Fr.snoc X382 N378 g_b366
      obtain ⟨cl384, Ar384, q384, S384, M384, H384, G384⟩ := id Va
      have hin384 : ¬ ((4 : Int32) < 0 ∨ cl384.slots.size ≤ ((4 : Int32)).toNatClampNeg) := inb_of S384 ⟨by decide, by decide⟩
      obtain ⟨cl385, Ar385, q385, S385, M385, H385, G385⟩ := id V_b366
      have hin385 : ¬ ((4 : Int32) < 0 ∨ cl385.slots.size ≤ ((4 : Int32)).toNatClampNeg) := inb_of S385 ⟨by decide, by decide⟩
      obtain ⟨T386, h386, X386, e386, W386, st386⟩ := stC X382 hx hZ e382 Ar385 (j := (4 : Int32)) hin385 (g := (mkF m 672 #[.val (.ref ar), .val (.int n1)] [(.int c4), (.int 4), (.ref b366), (.ref b366), (.ref b364), (.ref b364)])) rfl rfl (hb hby own_d9_672)
      have O := O.wr W386 g_b366
      have Va := Va.other W386 ne_ar_b366
      have F_value_b364 := F_value_b364.other W386 (Or.inl ne_b364_b366)
      have F_coder_b364 := F_coder_b364.other W386 (Or.inl ne_b364_b366)
      have E_b364 := E_b364.wr W386
      have hk := Nat.le_trans hk (Keep.of_wr W386).1
      have Z387 : n0 ≤ h386.size := Nat.le_trans Z383 (Keep.of_wr W386).1
      have KP := KP.wr W386 (Or.inr sz_b366)
      have V_b366 := Arv.set Ar385 q385 S385 M385 H385 G385 (fits_nar_char _) W386 4 rfl (Nat.le_of_ble_eq_true rfl)
      have V_b366 : Arv Z h386 b366 k366 .char (12 : Int32) [(.int c0), (.int c1), (.int c2), (.int c3), (.int c4), (.int 0), (.int 0), (.int 0), (.int 0), (.int 0), (.int 0), (.int 0)] (.int 0) := by have q := V_b366; simp only [nc4, List.set] at q; exact q
      have N386 := Fr.snoc X386 N382 g_b366
      obtain ⟨cl388, Ar388, q388, S388, M388, H388, G388⟩ := id Va
      have hin388 : ¬ ((5 : Int32) < 0 ∨ cl388.slots.size ≤ ((5 : Int32)).toNatClampNeg) := inb_of S388 ⟨by decide, by decide⟩
      obtain ⟨cl389, Ar389, q389, S389, M389, H389, G389⟩ := id V_b366
      have hin389 : ¬ ((5 : Int32) < 0 ∨ cl389.slots.size ≤ ((5 : Int32)).toNatClampNeg) := inb_of S389 ⟨by decide, by decide⟩
      obtain ⟨T390, h390, X390, e390, W390, st390⟩ := stC X386 hx hZ e386 Ar389 (j := (5 : Int32)) hin389 (g := (mkF m 678 #[.val (.ref ar), .val (.int n1)] [(.int c5), (.int 5), (.ref b366), (.ref b366), (.ref b364), (.ref b364)])) rfl rfl (hb hby own_d9_678)
      have O := O.wr W390 g_b366
      have Va := Va.other W390 ne_ar_b366
      have F_value_b364 := F_value_b364.other W390 (Or.inl ne_b364_b366)
      have F_coder_b364 := F_coder_b364.other W390 (Or.inl ne_b364_b366)
      have E_b364 := E_b364.wr W390
      have hk := Nat.le_trans hk (Keep.of_wr W390).1
      have Z391 : n0 ≤ h390.size := Nat.le_trans Z387 (Keep.of_wr W390).1
      have KP := KP.wr W390 (Or.inr sz_b366)
      have V_b366 := Arv.set Ar389 q389 S389 M389 H389 G389 (fits_nar_char _) W390 5 rfl (Nat.le_of_ble_eq_true rfl)
      have V_b366 : Arv Z h390 b366 k366 .char (12 : Int32) [(.int c0), (.int c1), (.int c2), (.int c3), (.int c4), (.int c5), (.int 0), (.int 0), (.int 0), (.int 0), (.int 0), (.int 0)] (.int 0) := by have q := V_b366; simp only [nc5, List.set] at q; exact q
      have N390 := Fr.snoc X390 N386 g_b366
      obtain ⟨cl392, Ar392, q392, S392, M392, H392, G392⟩ := id Va
      have hin392 : ¬ ((6 : Int32) < 0 ∨ cl392.slots.size ≤ ((6 : Int32)).toNatClampNeg) := inb_of S392 ⟨by decide, by decide⟩
      obtain ⟨cl393, Ar393, q393, S393, M393, H393, G393⟩ := id V_b366
      have hin393 : ¬ ((6 : Int32) < 0 ∨ cl393.slots.size ≤ ((6 : Int32)).toNatClampNeg) := inb_of S393 ⟨by decide, by decide⟩
      obtain ⟨T394, h394, X394, e394, W394, st394⟩ := stC X390 hx hZ e390 Ar393 (j := (6 : Int32)) hin393 (g := (mkF m 686 #[.val (.ref ar), .val (.int n1)] [(.int c6), (.int 6), (.ref b366), (.ref b366), (.ref b364), (.ref b364)])) rfl rfl (hb hby own_d9_686)
      have O := O.wr W394 g_b366
      have Va := Va.other W394 ne_ar_b366
      have F_value_b364 := F_value_b364.other W394 (Or.inl ne_b364_b366)
      have F_coder_b364 := F_coder_b364.other W394 (Or.inl ne_b364_b366)
      have E_b364 := E_b364.wr W394
      have hk := Nat.le_trans hk (Keep.of_wr W394).1
      have Z395 : n0 ≤ h394.size := Nat.le_trans Z391 (Keep.of_wr W394).1
      have KP := KP.wr W394 (Or.inr sz_b366)
      have V_b366 := Arv.set Ar393 q393 S393 M393 H393 G393 (fits_nar_char _) W394 6 rfl (Nat.le_of_ble_eq_true rfl)
      have V_b366 : Arv Z h394 b366 k366 .char (12 : Int32) [(.int c0), (.int c1), (.int c2), (.int c3), (.int c4), (.int c5), (.int c6), (.int 0), (.int 0), (.int 0), (.int 0), (.int 0)] (.int 0) := by have q := V_b366; simp only [nc6, List.set] at q; exact q
      have N394 := Fr.snoc X394 N390 g_b366
      obtain ⟨cl396, Ar396, q396, S396, M396, H396, G396⟩ := id Va
      have hin396 : ¬ ((7 : Int32) < 0 ∨ cl396.slots.size ≤ ((7 : Int32)).toNatClampNeg) := inb_of S396 ⟨by decide, by decide⟩
      obtain ⟨cl397, Ar397, q397, S397, M397, H397, G397⟩ := id V_b366
      have hin397 : ¬ ((7 : Int32) < 0 ∨ cl397.slots.size ≤ ((7 : Int32)).toNatClampNeg) := inb_of S397 ⟨by decide, by decide⟩
      obtain ⟨T398, h398, X398, e398, W398, st398⟩ := stC X394 hx hZ e394 Ar397 (j := (7 : Int32)) hin397 (g := (mkF m 694 #[.val (.ref ar), .val (.int n1)] [(.int c7), (.int 7), (.ref b366), (.ref b366), (.ref b364), (.ref b364)])) rfl rfl (hb hby own_d9_694)
      have O := O.wr W398 g_b366
      have Va := Va.other W398 ne_ar_b366
      have F_value_b364 := F_value_b364.other W398 (Or.inl ne_b364_b366)
      have F_coder_b364 := F_coder_b364.other W398 (Or.inl ne_b364_b366)
      have E_b364 := E_b364.wr W398
      have hk := Nat.le_trans hk (Keep.of_wr W398).1
      have Z399 : n0 ≤ h398.size := Nat.le_trans Z395 (Keep.of_wr W398).1
      have KP := KP.wr W398 (Or.inr sz_b366)
      have V_b366 := Arv.set Ar397 q397 S397 M397 H397 G397 (fits_nar_char _) W398 7 rfl (Nat.le_of_ble_eq_true rfl)
      have V_b366 : Arv Z h398 b366 k366 .char (12 : Int32) [(.int c0), (.int c1), (.int c2), (.int c3), (.int c4), (.int c5), (.int c6), (.int c7), (.int 0), (.int 0), (.int 0), (.int 0)] (.int 0) := by have q := V_b366; simp only [nc7, List.set] at q; exact q
      have N398 := Fr.snoc X398 N394 g_b366
      obtain ⟨cl400, Ar400, q400, S400, M400, H400, G400⟩ := id Va
      have hin400 : ¬ ((8 : Int32) < 0 ∨ cl400.slots.size ≤ ((8 : Int32)).toNatClampNeg) := inb_of S400 ⟨by decide, by decide⟩
      obtain ⟨cl401, Ar401, q401, S401, M401, H401, G401⟩ := id V_b366
      have hin401 : ¬ ((8 : Int32) < 0 ∨ cl401.slots.size ≤ ((8 : Int32)).toNatClampNeg) := inb_of S401 ⟨by decide, by decide⟩
      obtain ⟨T402, h402, X402, e402, W402, st402⟩ := stC X398 hx hZ e398 Ar401 (j := (8 : Int32)) hin401 (g := (mkF m 702 #[.val (.ref ar), .val (.int n1)] [(.int c8), (.int 8), (.ref b366), (.ref b366), (.ref b364), (.ref b364)])) rfl rfl (hb hby own_d9_702)
      have O := O.wr W402 g_b366
      have Va := Va.other W402 ne_ar_b366
      have F_value_b364 := F_value_b364.other W402 (Or.inl ne_b364_b366)
      have F_coder_b364 := F_coder_b364.other W402 (Or.inl ne_b364_b366)
      have E_b364 := E_b364.wr W402
      have hk := Nat.le_trans hk (Keep.of_wr W402).1
      have Z403 : n0 ≤ h402.size := Nat.le_trans Z399 (Keep.of_wr W402).1
      have KP := KP.wr W402 (Or.inr sz_b366)
      have V_b366 := Arv.set Ar401 q401 S401 M401 H401 G401 (fits_nar_char _) W402 8 rfl (Nat.le_of_ble_eq_true rfl)
      have V_b366 : Arv Z h402 b366 k366 .char (12 : Int32) [(.int c0), (.int c1), (.int c2), (.int c3), (.int c4), (.int c5), (.int c6), (.int c7), (.int c8), (.int 0), (.int 0), (.int 0)] (.int 0) := by have q := V_b366; simp only [nc8, List.set] at q; exact q
      have N402 := Fr.snoc X402 N398 g_b366
      obtain ⟨cl404, Ar404, q404, S404, M404, H404, G404⟩ := id Va
      have hin404 : ¬ ((9 : Int32) < 0 ∨ cl404.slots.size ≤ ((9 : Int32)).toNatClampNeg) := inb_of S404 ⟨by decide, by decide⟩
      obtain ⟨cl405, Ar405, q405, S405, M405, H405, G405⟩ := id V_b366
      have hin405 : ¬ ((9 : Int32) < 0 ∨ cl405.slots.size ≤ ((9 : Int32)).toNatClampNeg) := inb_of S405 ⟨by decide, by decide⟩
      obtain ⟨T406, h406, X406, e406, W406, st406⟩ := stC X402 hx hZ e402 Ar405 (j := (9 : Int32)) hin405 (g := (mkF m 710 #[.val (.ref ar), .val (.int n1)] [(.int c9), (.int 9), (.ref b366), (.ref b366), (.ref b364), (.ref b364)])) rfl rfl (hb hby own_d9_710)
      have O := O.wr W406 g_b366
      have Va := Va.other W406 ne_ar_b366
      have F_value_b364 := F_value_b364.other W406 (Or.inl ne_b364_b366)
      have F_coder_b364 := F_coder_b364.other W406 (Or.inl ne_b364_b366)
      have E_b364 := E_b364.wr W406
      have hk := Nat.le_trans hk (Keep.of_wr W406).1
      have Z407 : n0 ≤ h406.size := Nat.le_trans Z403 (Keep.of_wr W406).1
      have KP := KP.wr W406 (Or.inr sz_b366)
      have V_b366 := Arv.set Ar405 q405 S405 M405 H405 G405 (fits_nar_char _) W406 9 rfl (Nat.le_of_ble_eq_true rfl)
      have V_b366 : Arv Z h406 b366 k366 .char (12 : Int32) [(.int c0), (.int c1), (.int c2), (.int c3), (.int c4), (.int c5), (.int c6), (.int c7), (.int c8), (.int c9), (.int 0), (.int 0)] (.int 0) := by have q := V_b366; simp only [nc9, List.set] at q; exact q
      have N406 := Fr.snoc X406 N402 g_b366
      obtain ⟨cl408, Ar408, q408, S408, M408, H408, G408⟩ := id Va
      have hin408 : ¬ ((10 : Int32) < 0 ∨ cl408.slots.size ≤ ((10 : Int32)).toNatClampNeg) := inb_of S408 ⟨by decide, by decide⟩
      obtain ⟨cl409, Ar409, q409, S409, M409, H409, G409⟩ := id V_b366
      have hin409 : ¬ ((10 : Int32) < 0 ∨ cl409.slots.size ≤ ((10 : Int32)).toNatClampNeg) := inb_of S409 ⟨by decide, by decide⟩
      obtain ⟨T410, h410, X410, e410, W410, st410⟩ := stC X406 hx hZ e406 Ar409 (j := (10 : Int32)) hin409 (g := (mkF m 718 #[.val (.ref ar), .val (.int n1)] [(.int c10), (.int 10), (.ref b366), (.ref b366), (.ref b364), (.ref b364)])) rfl rfl (hb hby own_d9_718)
      have O := O.wr W410 g_b366
      have Va := Va.other W410 ne_ar_b366
      have F_value_b364 := F_value_b364.other W410 (Or.inl ne_b364_b366)
      have F_coder_b364 := F_coder_b364.other W410 (Or.inl ne_b364_b366)
      have E_b364 := E_b364.wr W410
      have hk := Nat.le_trans hk (Keep.of_wr W410).1
      have Z411 : n0 ≤ h410.size := Nat.le_trans Z407 (Keep.of_wr W410).1
      have KP := KP.wr W410 (Or.inr sz_b366)
      have V_b366 := Arv.set Ar409 q409 S409 M409 H409 G409 (fits_nar_char _) W410 10 rfl (Nat.le_of_ble_eq_true rfl)
      have V_b366 : Arv Z h410 b366 k366 .char (12 : Int32) [(.int c0), (.int c1), (.int c2), (.int c3), (.int c4), (.int c5), (.int c6), (.int c7), (.int c8), (.int c9), (.int c10), (.int 0)] (.int 0) := by have q := V_b366; simp only [nc10, List.set] at q; exact q
      have N410 := Fr.snoc X410 N406 g_b366
      obtain ⟨cl412, Ar412, q412, S412, M412, H412, G412⟩ := id Va
      have hin412 : ¬ ((11 : Int32) < 0 ∨ cl412.slots.size ≤ ((11 : Int32)).toNatClampNeg) := inb_of S412 ⟨by decide, by decide⟩
      obtain ⟨cl413, Ar413, q413, S413, M413, H413, G413⟩ := id V_b366
      have hin413 : ¬ ((11 : Int32) < 0 ∨ cl413.slots.size ≤ ((11 : Int32)).toNatClampNeg) := inb_of S413 ⟨by decide, by decide⟩
      obtain ⟨T414, h414, X414, e414, W414, st414⟩ := stC X410 hx hZ e410 Ar413 (j := (11 : Int32)) hin413 (g := (mkF m 726 #[.val (.ref ar), .val (.int n1)] [(.int c11), (.int 11), (.ref b366), (.ref b366), (.ref b364), (.ref b364)])) rfl rfl (hb hby own_d9_726)
      have O := O.wr W414 g_b366
      have Va := Va.other W414 ne_ar_b366
      have F_value_b364 := F_value_b364.other W414 (Or.inl ne_b364_b366)
      have F_coder_b364 := F_coder_b364.other W414 (Or.inl ne_b364_b366)
      have E_b364 := E_b364.wr W414
      have hk := Nat.le_trans hk (Keep.of_wr W414).1
      have Z415 : n0 ≤ h414.size := Nat.le_trans Z411 (Keep.of_wr W414).1
      have KP := KP.wr W414 (Or.inr sz_b366)
      have V_b366 := Arv.set Ar413 q413 S413 M413 H413 G413 (fits_nar_char _) W414 11 rfl (Nat.le_of_ble_eq_true rfl)
      have V_b366 : Arv Z h414 b366 k366 .char (12 : Int32) [(.int c0), (.int c1), (.int c2), (.int c3), (.int c4), (.int c5), (.int c6), (.int c7), (.int c8), (.int c9), (.int c10), (.int c11)] (.int 0) := by have q := V_b366; simp only [nc11, List.set] at q; exact q
      have N414 := Fr.snoc X414 N410 g_b366
      obtain ⟨_, _, ⟨T416, L416, k416, n416⟩, -, X416, ⟨Lc416, hQ416, l416, y416, z416⟩, st416⟩ := X414.specialBack hx (y := (⟨"java/lang/String", "<init>", "([C)V"⟩ : MethodName)) rfl hown (mvT hZ (hw _ (own_m (i := 55) rfl))) (mvT hZ (hw _ (own_m (i := 56) rfl))) (mvT hZ (hw _ (own_m (i := 57) rfl))) (by decide) (StrChars.Road.backV (W := 1) hZ (fun d hd => hw d ((by decide +kernel : ∀ d ∈ StrChars.Road.words, d ∈ tables_1) d hd)) (kI := 4) (hw _ (own_m (i := 2) rfl)) (cs := ([c0, c1, c2, c3, c4, c5, c6, c7, c8, c9, c10, c11] : List Int32)) (bs := List.map (fun c => c.toInt8.toInt32) ([c0, c1, c2, c3, c4, c5, c6, c7, c8, c9, c10, c11] : List Int32)) (n := 12) (n0 := n0) g_b364 Z415 E_b364 F_value_b364 F_coder_b364 V_b366 (S0.ext O.2) hcz rfl rfl (by decide) (by decide) (fun c hc => okA c (List.mem_of_mem_take (i := 12) hc)) rfl (by decide) (by decide)) (g := (mkF m 727 #[.val (.ref ar), .val (.int n1)] [(.ref b366), (.ref b364), (.ref b364)])) rfl (by rw [hml]; rfl) (Steps.refl _) (a := b364) (argsL := [(.ref b366)]) (rest := [(.ref b364)]) (lenOf own_pd4 rfl) rfl (by show 2 * 0 + _ ≤ _; exact Nat.le_of_eq rfl) (hb hby own_d9_727) (fun _ _ => ⟨rfl, e414, (by decide : 2 + 1 ≤ _), (by decide : 16 + 12 ≤ _)⟩)
      dsimp only [Pt.U, Pt.locs, Pt.cells, Pt.slots] at X416 l416 y416 z416 st416 hQ416
      subst l416 y416 z416
      obtain ⟨rfl, N416q, K416, Ee416, Fc416, b416, kb416, g1416, sz416, nx416, Fv416, VB416⟩ := hQ416
      have N416 := Fr.app N414 N416q
      have O := O.keep K416 (allS g_b364 all0)
      have E_b364 := E_b364.keep K416
      have V_b366 := V_b366.keep K416 (ninS (Ne.symm ne_b364_b366) nin0)
      have hk := Nat.le_trans hk K416.1
      have Z417 := Nat.le_trans Z415 K416.1
      have KP := KP.trans K416 (allS (Or.inr sz_b364) all0)
      obtain ⟨fs, hr, hrun, hended, hRW⟩ := X416.leaveW hS hk (v := some (.ref b364)) (fun h => by rw [Bd.returns] at h; cases h)
      refine ⟨_, _, pre362 _ ?_, hrun, hended, _, _, rfl, ?_, hRW.1, hRW.2.1, hRW.2.2.1, hRW.2.2.2.mono (by decide) (by decide)⟩
      · refine XS.icmpNo X0.here hx rfl (hb hby own_d9_632) rfl (teq hc363).2 ?_
        show Steps p.tables e below (s₁.setTop (mkF m 635 #[.val (.ref ar), .val (.int n1)] [])) _
        refine st364 _ ?_
        show Steps p.tables e below (T364.setTop (mkF m 638 #[.val (.ref ar), .val (.int n1)] [(.ref b364)])) _
        refine XS.dup X364.here hx rfl (hb hby own_d9_638) rfl rfl ?_
        show Steps p.tables e below (T364.setTop (mkF m 639 #[.val (.ref ar), .val (.int n1)] [(.ref b364), (.ref b364)])) _
        refine XS.bipush X364.here hx rfl (hb hby own_d9_639) ?_
        show Steps p.tables e below (T364.setTop (mkF m 641 #[.val (.ref ar), .val (.int n1)] [(.int 12), (.ref b364), (.ref b364)])) _
        refine st366 _ ?_
        show Steps p.tables e below (T366.setTop (mkF m 643 #[.val (.ref ar), .val (.int n1)] [(.ref b366), (.ref b364), (.ref b364)])) _
        refine XS.dup X366.here hx rfl (hb hby own_d9_643) rfl rfl ?_
        show Steps p.tables e below (T366.setTop (mkF m 644 #[.val (.ref ar), .val (.int n1)] [(.ref b366), (.ref b366), (.ref b364), (.ref b364)])) _
        refine XS.iconst X366.here hx rfl (hb hby own_d9_644) ?_
        show Steps p.tables e below (T366.setTop (mkF m 645 #[.val (.ref ar), .val (.int n1)] [(.int 0), (.ref b366), (.ref b366), (.ref b364), (.ref b364)])) _
        refine XS.aloadN X366.here hx rfl (hb hby own_d9_645) rfl rfl ?_
        show Steps p.tables e below (T366.setTop (mkF m 646 #[.val (.ref ar), .val (.int n1)] [(.ref ar), (.int 0), (.ref b366), (.ref b366), (.ref b364), (.ref b364)])) _
        refine XS.iconst X366.here hx rfl (hb hby own_d9_646) ?_
        show Steps p.tables e below (T366.setTop (mkF m 647 #[.val (.ref ar), .val (.int n1)] [(.int 0), (.ref ar), (.int 0), (.ref b366), (.ref b366), (.ref b364), (.ref b364)])) _
        refine X366.caload hx (j := (0 : Int32)) (v := (.int c0)) (by rw [e366]; exact Ar368.1) (State.isArrayOf_alike hZ.alike Ar368.2.1) Ar368.2.2 hin368 (H368.at hin368 rfl) (g := (mkF m 647 #[.val (.ref ar), .val (.int n1)] [(.int 0), (.ref ar), (.int 0), (.ref b366), (.ref b366), (.ref b364), (.ref b364)])) rfl rfl (hb hby own_d9_647) _ ?_
        show Steps p.tables e below (T366.setTop (mkF m 648 #[.val (.ref ar), .val (.int n1)] [(.int c0), (.int 0), (.ref b366), (.ref b366), (.ref b364), (.ref b364)])) _
        refine st370 _ ?_
        show Steps p.tables e below (T370.setTop (mkF m 649 #[.val (.ref ar), .val (.int n1)] [(.ref b366), (.ref b364), (.ref b364)])) _
        refine XS.dup X370.here hx rfl (hb hby own_d9_649) rfl rfl ?_
        show Steps p.tables e below (T370.setTop (mkF m 650 #[.val (.ref ar), .val (.int n1)] [(.ref b366), (.ref b366), (.ref b364), (.ref b364)])) _
        refine XS.iconst X370.here hx rfl (hb hby own_d9_650) ?_
        show Steps p.tables e below (T370.setTop (mkF m 651 #[.val (.ref ar), .val (.int n1)] [(.int 1), (.ref b366), (.ref b366), (.ref b364), (.ref b364)])) _
        refine XS.aloadN X370.here hx rfl (hb hby own_d9_651) rfl rfl ?_
        show Steps p.tables e below (T370.setTop (mkF m 652 #[.val (.ref ar), .val (.int n1)] [(.ref ar), (.int 1), (.ref b366), (.ref b366), (.ref b364), (.ref b364)])) _
        refine XS.iconst X370.here hx rfl (hb hby own_d9_652) ?_
        show Steps p.tables e below (T370.setTop (mkF m 653 #[.val (.ref ar), .val (.int n1)] [(.int 1), (.ref ar), (.int 1), (.ref b366), (.ref b366), (.ref b364), (.ref b364)])) _
        refine X370.caload hx (j := (1 : Int32)) (v := (.int c1)) (by rw [e370]; exact Ar372.1) (State.isArrayOf_alike hZ.alike Ar372.2.1) Ar372.2.2 hin372 (H372.at hin372 rfl) (g := (mkF m 653 #[.val (.ref ar), .val (.int n1)] [(.int 1), (.ref ar), (.int 1), (.ref b366), (.ref b366), (.ref b364), (.ref b364)])) rfl rfl (hb hby own_d9_653) _ ?_
        show Steps p.tables e below (T370.setTop (mkF m 654 #[.val (.ref ar), .val (.int n1)] [(.int c1), (.int 1), (.ref b366), (.ref b366), (.ref b364), (.ref b364)])) _
        refine st374 _ ?_
        show Steps p.tables e below (T374.setTop (mkF m 655 #[.val (.ref ar), .val (.int n1)] [(.ref b366), (.ref b364), (.ref b364)])) _
        refine XS.dup X374.here hx rfl (hb hby own_d9_655) rfl rfl ?_
        show Steps p.tables e below (T374.setTop (mkF m 656 #[.val (.ref ar), .val (.int n1)] [(.ref b366), (.ref b366), (.ref b364), (.ref b364)])) _
        refine XS.iconst X374.here hx rfl (hb hby own_d9_656) ?_
        show Steps p.tables e below (T374.setTop (mkF m 657 #[.val (.ref ar), .val (.int n1)] [(.int 2), (.ref b366), (.ref b366), (.ref b364), (.ref b364)])) _
        refine XS.aloadN X374.here hx rfl (hb hby own_d9_657) rfl rfl ?_
        show Steps p.tables e below (T374.setTop (mkF m 658 #[.val (.ref ar), .val (.int n1)] [(.ref ar), (.int 2), (.ref b366), (.ref b366), (.ref b364), (.ref b364)])) _
        refine XS.iconst X374.here hx rfl (hb hby own_d9_658) ?_
        show Steps p.tables e below (T374.setTop (mkF m 659 #[.val (.ref ar), .val (.int n1)] [(.int 2), (.ref ar), (.int 2), (.ref b366), (.ref b366), (.ref b364), (.ref b364)])) _
        refine X374.caload hx (j := (2 : Int32)) (v := (.int c2)) (by rw [e374]; exact Ar376.1) (State.isArrayOf_alike hZ.alike Ar376.2.1) Ar376.2.2 hin376 (H376.at hin376 rfl) (g := (mkF m 659 #[.val (.ref ar), .val (.int n1)] [(.int 2), (.ref ar), (.int 2), (.ref b366), (.ref b366), (.ref b364), (.ref b364)])) rfl rfl (hb hby own_d9_659) _ ?_
        show Steps p.tables e below (T374.setTop (mkF m 660 #[.val (.ref ar), .val (.int n1)] [(.int c2), (.int 2), (.ref b366), (.ref b366), (.ref b364), (.ref b364)])) _
        refine st378 _ ?_
        show Steps p.tables e below (T378.setTop (mkF m 661 #[.val (.ref ar), .val (.int n1)] [(.ref b366), (.ref b364), (.ref b364)])) _
        refine XS.dup X378.here hx rfl (hb hby own_d9_661) rfl rfl ?_
        show Steps p.tables e below (T378.setTop (mkF m 662 #[.val (.ref ar), .val (.int n1)] [(.ref b366), (.ref b366), (.ref b364), (.ref b364)])) _
        refine XS.iconst X378.here hx rfl (hb hby own_d9_662) ?_
        show Steps p.tables e below (T378.setTop (mkF m 663 #[.val (.ref ar), .val (.int n1)] [(.int 3), (.ref b366), (.ref b366), (.ref b364), (.ref b364)])) _
        refine XS.aloadN X378.here hx rfl (hb hby own_d9_663) rfl rfl ?_
        show Steps p.tables e below (T378.setTop (mkF m 664 #[.val (.ref ar), .val (.int n1)] [(.ref ar), (.int 3), (.ref b366), (.ref b366), (.ref b364), (.ref b364)])) _
        refine XS.iconst X378.here hx rfl (hb hby own_d9_664) ?_
        show Steps p.tables e below (T378.setTop (mkF m 665 #[.val (.ref ar), .val (.int n1)] [(.int 3), (.ref ar), (.int 3), (.ref b366), (.ref b366), (.ref b364), (.ref b364)])) _
        refine X378.caload hx (j := (3 : Int32)) (v := (.int c3)) (by rw [e378]; exact Ar380.1) (State.isArrayOf_alike hZ.alike Ar380.2.1) Ar380.2.2 hin380 (H380.at hin380 rfl) (g := (mkF m 665 #[.val (.ref ar), .val (.int n1)] [(.int 3), (.ref ar), (.int 3), (.ref b366), (.ref b366), (.ref b364), (.ref b364)])) rfl rfl (hb hby own_d9_665) _ ?_
        show Steps p.tables e below (T378.setTop (mkF m 666 #[.val (.ref ar), .val (.int n1)] [(.int c3), (.int 3), (.ref b366), (.ref b366), (.ref b364), (.ref b364)])) _
        refine st382 _ ?_
        show Steps p.tables e below (T382.setTop (mkF m 667 #[.val (.ref ar), .val (.int n1)] [(.ref b366), (.ref b364), (.ref b364)])) _
        refine XS.dup X382.here hx rfl (hb hby own_d9_667) rfl rfl ?_
        show Steps p.tables e below (T382.setTop (mkF m 668 #[.val (.ref ar), .val (.int n1)] [(.ref b366), (.ref b366), (.ref b364), (.ref b364)])) _
        refine XS.iconst X382.here hx rfl (hb hby own_d9_668) ?_
        show Steps p.tables e below (T382.setTop (mkF m 669 #[.val (.ref ar), .val (.int n1)] [(.int 4), (.ref b366), (.ref b366), (.ref b364), (.ref b364)])) _
        refine XS.aloadN X382.here hx rfl (hb hby own_d9_669) rfl rfl ?_
        show Steps p.tables e below (T382.setTop (mkF m 670 #[.val (.ref ar), .val (.int n1)] [(.ref ar), (.int 4), (.ref b366), (.ref b366), (.ref b364), (.ref b364)])) _
        refine XS.iconst X382.here hx rfl (hb hby own_d9_670) ?_
        show Steps p.tables e below (T382.setTop (mkF m 671 #[.val (.ref ar), .val (.int n1)] [(.int 4), (.ref ar), (.int 4), (.ref b366), (.ref b366), (.ref b364), (.ref b364)])) _
        refine X382.caload hx (j := (4 : Int32)) (v := (.int c4)) (by rw [e382]; exact Ar384.1) (State.isArrayOf_alike hZ.alike Ar384.2.1) Ar384.2.2 hin384 (H384.at hin384 rfl) (g := (mkF m 671 #[.val (.ref ar), .val (.int n1)] [(.int 4), (.ref ar), (.int 4), (.ref b366), (.ref b366), (.ref b364), (.ref b364)])) rfl rfl (hb hby own_d9_671) _ ?_
        show Steps p.tables e below (T382.setTop (mkF m 672 #[.val (.ref ar), .val (.int n1)] [(.int c4), (.int 4), (.ref b366), (.ref b366), (.ref b364), (.ref b364)])) _
        refine st386 _ ?_
        show Steps p.tables e below (T386.setTop (mkF m 673 #[.val (.ref ar), .val (.int n1)] [(.ref b366), (.ref b364), (.ref b364)])) _
        refine XS.dup X386.here hx rfl (hb hby own_d9_673) rfl rfl ?_
        show Steps p.tables e below (T386.setTop (mkF m 674 #[.val (.ref ar), .val (.int n1)] [(.ref b366), (.ref b366), (.ref b364), (.ref b364)])) _
        refine XS.iconst X386.here hx rfl (hb hby own_d9_674) ?_
        show Steps p.tables e below (T386.setTop (mkF m 675 #[.val (.ref ar), .val (.int n1)] [(.int 5), (.ref b366), (.ref b366), (.ref b364), (.ref b364)])) _
        refine XS.aloadN X386.here hx rfl (hb hby own_d9_675) rfl rfl ?_
        show Steps p.tables e below (T386.setTop (mkF m 676 #[.val (.ref ar), .val (.int n1)] [(.ref ar), (.int 5), (.ref b366), (.ref b366), (.ref b364), (.ref b364)])) _
        refine XS.iconst X386.here hx rfl (hb hby own_d9_676) ?_
        show Steps p.tables e below (T386.setTop (mkF m 677 #[.val (.ref ar), .val (.int n1)] [(.int 5), (.ref ar), (.int 5), (.ref b366), (.ref b366), (.ref b364), (.ref b364)])) _
        refine X386.caload hx (j := (5 : Int32)) (v := (.int c5)) (by rw [e386]; exact Ar388.1) (State.isArrayOf_alike hZ.alike Ar388.2.1) Ar388.2.2 hin388 (H388.at hin388 rfl) (g := (mkF m 677 #[.val (.ref ar), .val (.int n1)] [(.int 5), (.ref ar), (.int 5), (.ref b366), (.ref b366), (.ref b364), (.ref b364)])) rfl rfl (hb hby own_d9_677) _ ?_
        show Steps p.tables e below (T386.setTop (mkF m 678 #[.val (.ref ar), .val (.int n1)] [(.int c5), (.int 5), (.ref b366), (.ref b366), (.ref b364), (.ref b364)])) _
        refine st390 _ ?_
        show Steps p.tables e below (T390.setTop (mkF m 679 #[.val (.ref ar), .val (.int n1)] [(.ref b366), (.ref b364), (.ref b364)])) _
        refine XS.dup X390.here hx rfl (hb hby own_d9_679) rfl rfl ?_
        show Steps p.tables e below (T390.setTop (mkF m 680 #[.val (.ref ar), .val (.int n1)] [(.ref b366), (.ref b366), (.ref b364), (.ref b364)])) _
        refine XS.bipush X390.here hx rfl (hb hby own_d9_680) ?_
        show Steps p.tables e below (T390.setTop (mkF m 682 #[.val (.ref ar), .val (.int n1)] [(.int 6), (.ref b366), (.ref b366), (.ref b364), (.ref b364)])) _
        refine XS.aloadN X390.here hx rfl (hb hby own_d9_682) rfl rfl ?_
        show Steps p.tables e below (T390.setTop (mkF m 683 #[.val (.ref ar), .val (.int n1)] [(.ref ar), (.int 6), (.ref b366), (.ref b366), (.ref b364), (.ref b364)])) _
        refine XS.bipush X390.here hx rfl (hb hby own_d9_683) ?_
        show Steps p.tables e below (T390.setTop (mkF m 685 #[.val (.ref ar), .val (.int n1)] [(.int 6), (.ref ar), (.int 6), (.ref b366), (.ref b366), (.ref b364), (.ref b364)])) _
        refine X390.caload hx (j := (6 : Int32)) (v := (.int c6)) (by rw [e390]; exact Ar392.1) (State.isArrayOf_alike hZ.alike Ar392.2.1) Ar392.2.2 hin392 (H392.at hin392 rfl) (g := (mkF m 685 #[.val (.ref ar), .val (.int n1)] [(.int 6), (.ref ar), (.int 6), (.ref b366), (.ref b366), (.ref b364), (.ref b364)])) rfl rfl (hb hby own_d9_685) _ ?_
        show Steps p.tables e below (T390.setTop (mkF m 686 #[.val (.ref ar), .val (.int n1)] [(.int c6), (.int 6), (.ref b366), (.ref b366), (.ref b364), (.ref b364)])) _
        refine st394 _ ?_
        show Steps p.tables e below (T394.setTop (mkF m 687 #[.val (.ref ar), .val (.int n1)] [(.ref b366), (.ref b364), (.ref b364)])) _
        refine XS.dup X394.here hx rfl (hb hby own_d9_687) rfl rfl ?_
        show Steps p.tables e below (T394.setTop (mkF m 688 #[.val (.ref ar), .val (.int n1)] [(.ref b366), (.ref b366), (.ref b364), (.ref b364)])) _
        refine XS.bipush X394.here hx rfl (hb hby own_d9_688) ?_
        show Steps p.tables e below (T394.setTop (mkF m 690 #[.val (.ref ar), .val (.int n1)] [(.int 7), (.ref b366), (.ref b366), (.ref b364), (.ref b364)])) _
        refine XS.aloadN X394.here hx rfl (hb hby own_d9_690) rfl rfl ?_
        show Steps p.tables e below (T394.setTop (mkF m 691 #[.val (.ref ar), .val (.int n1)] [(.ref ar), (.int 7), (.ref b366), (.ref b366), (.ref b364), (.ref b364)])) _
        refine XS.bipush X394.here hx rfl (hb hby own_d9_691) ?_
        show Steps p.tables e below (T394.setTop (mkF m 693 #[.val (.ref ar), .val (.int n1)] [(.int 7), (.ref ar), (.int 7), (.ref b366), (.ref b366), (.ref b364), (.ref b364)])) _
        refine X394.caload hx (j := (7 : Int32)) (v := (.int c7)) (by rw [e394]; exact Ar396.1) (State.isArrayOf_alike hZ.alike Ar396.2.1) Ar396.2.2 hin396 (H396.at hin396 rfl) (g := (mkF m 693 #[.val (.ref ar), .val (.int n1)] [(.int 7), (.ref ar), (.int 7), (.ref b366), (.ref b366), (.ref b364), (.ref b364)])) rfl rfl (hb hby own_d9_693) _ ?_
        show Steps p.tables e below (T394.setTop (mkF m 694 #[.val (.ref ar), .val (.int n1)] [(.int c7), (.int 7), (.ref b366), (.ref b366), (.ref b364), (.ref b364)])) _
        refine st398 _ ?_
        show Steps p.tables e below (T398.setTop (mkF m 695 #[.val (.ref ar), .val (.int n1)] [(.ref b366), (.ref b364), (.ref b364)])) _
        refine XS.dup X398.here hx rfl (hb hby own_d9_695) rfl rfl ?_
        show Steps p.tables e below (T398.setTop (mkF m 696 #[.val (.ref ar), .val (.int n1)] [(.ref b366), (.ref b366), (.ref b364), (.ref b364)])) _
        refine XS.bipush X398.here hx rfl (hb hby own_d9_696) ?_
        show Steps p.tables e below (T398.setTop (mkF m 698 #[.val (.ref ar), .val (.int n1)] [(.int 8), (.ref b366), (.ref b366), (.ref b364), (.ref b364)])) _
        refine XS.aloadN X398.here hx rfl (hb hby own_d9_698) rfl rfl ?_
        show Steps p.tables e below (T398.setTop (mkF m 699 #[.val (.ref ar), .val (.int n1)] [(.ref ar), (.int 8), (.ref b366), (.ref b366), (.ref b364), (.ref b364)])) _
        refine XS.bipush X398.here hx rfl (hb hby own_d9_699) ?_
        show Steps p.tables e below (T398.setTop (mkF m 701 #[.val (.ref ar), .val (.int n1)] [(.int 8), (.ref ar), (.int 8), (.ref b366), (.ref b366), (.ref b364), (.ref b364)])) _
        refine X398.caload hx (j := (8 : Int32)) (v := (.int c8)) (by rw [e398]; exact Ar400.1) (State.isArrayOf_alike hZ.alike Ar400.2.1) Ar400.2.2 hin400 (H400.at hin400 rfl) (g := (mkF m 701 #[.val (.ref ar), .val (.int n1)] [(.int 8), (.ref ar), (.int 8), (.ref b366), (.ref b366), (.ref b364), (.ref b364)])) rfl rfl (hb hby own_d9_701) _ ?_
        show Steps p.tables e below (T398.setTop (mkF m 702 #[.val (.ref ar), .val (.int n1)] [(.int c8), (.int 8), (.ref b366), (.ref b366), (.ref b364), (.ref b364)])) _
        refine st402 _ ?_
        show Steps p.tables e below (T402.setTop (mkF m 703 #[.val (.ref ar), .val (.int n1)] [(.ref b366), (.ref b364), (.ref b364)])) _
        refine XS.dup X402.here hx rfl (hb hby own_d9_703) rfl rfl ?_
        show Steps p.tables e below (T402.setTop (mkF m 704 #[.val (.ref ar), .val (.int n1)] [(.ref b366), (.ref b366), (.ref b364), (.ref b364)])) _
        refine XS.bipush X402.here hx rfl (hb hby own_d9_704) ?_
        show Steps p.tables e below (T402.setTop (mkF m 706 #[.val (.ref ar), .val (.int n1)] [(.int 9), (.ref b366), (.ref b366), (.ref b364), (.ref b364)])) _
        refine XS.aloadN X402.here hx rfl (hb hby own_d9_706) rfl rfl ?_
        show Steps p.tables e below (T402.setTop (mkF m 707 #[.val (.ref ar), .val (.int n1)] [(.ref ar), (.int 9), (.ref b366), (.ref b366), (.ref b364), (.ref b364)])) _
        refine XS.bipush X402.here hx rfl (hb hby own_d9_707) ?_
        show Steps p.tables e below (T402.setTop (mkF m 709 #[.val (.ref ar), .val (.int n1)] [(.int 9), (.ref ar), (.int 9), (.ref b366), (.ref b366), (.ref b364), (.ref b364)])) _
        refine X402.caload hx (j := (9 : Int32)) (v := (.int c9)) (by rw [e402]; exact Ar404.1) (State.isArrayOf_alike hZ.alike Ar404.2.1) Ar404.2.2 hin404 (H404.at hin404 rfl) (g := (mkF m 709 #[.val (.ref ar), .val (.int n1)] [(.int 9), (.ref ar), (.int 9), (.ref b366), (.ref b366), (.ref b364), (.ref b364)])) rfl rfl (hb hby own_d9_709) _ ?_
        show Steps p.tables e below (T402.setTop (mkF m 710 #[.val (.ref ar), .val (.int n1)] [(.int c9), (.int 9), (.ref b366), (.ref b366), (.ref b364), (.ref b364)])) _
        refine st406 _ ?_
        show Steps p.tables e below (T406.setTop (mkF m 711 #[.val (.ref ar), .val (.int n1)] [(.ref b366), (.ref b364), (.ref b364)])) _
        refine XS.dup X406.here hx rfl (hb hby own_d9_711) rfl rfl ?_
        show Steps p.tables e below (T406.setTop (mkF m 712 #[.val (.ref ar), .val (.int n1)] [(.ref b366), (.ref b366), (.ref b364), (.ref b364)])) _
        refine XS.bipush X406.here hx rfl (hb hby own_d9_712) ?_
        show Steps p.tables e below (T406.setTop (mkF m 714 #[.val (.ref ar), .val (.int n1)] [(.int 10), (.ref b366), (.ref b366), (.ref b364), (.ref b364)])) _
        refine XS.aloadN X406.here hx rfl (hb hby own_d9_714) rfl rfl ?_
        show Steps p.tables e below (T406.setTop (mkF m 715 #[.val (.ref ar), .val (.int n1)] [(.ref ar), (.int 10), (.ref b366), (.ref b366), (.ref b364), (.ref b364)])) _
        refine XS.bipush X406.here hx rfl (hb hby own_d9_715) ?_
        show Steps p.tables e below (T406.setTop (mkF m 717 #[.val (.ref ar), .val (.int n1)] [(.int 10), (.ref ar), (.int 10), (.ref b366), (.ref b366), (.ref b364), (.ref b364)])) _
        refine X406.caload hx (j := (10 : Int32)) (v := (.int c10)) (by rw [e406]; exact Ar408.1) (State.isArrayOf_alike hZ.alike Ar408.2.1) Ar408.2.2 hin408 (H408.at hin408 rfl) (g := (mkF m 717 #[.val (.ref ar), .val (.int n1)] [(.int 10), (.ref ar), (.int 10), (.ref b366), (.ref b366), (.ref b364), (.ref b364)])) rfl rfl (hb hby own_d9_717) _ ?_
        show Steps p.tables e below (T406.setTop (mkF m 718 #[.val (.ref ar), .val (.int n1)] [(.int c10), (.int 10), (.ref b366), (.ref b366), (.ref b364), (.ref b364)])) _
        refine st410 _ ?_
        show Steps p.tables e below (T410.setTop (mkF m 719 #[.val (.ref ar), .val (.int n1)] [(.ref b366), (.ref b364), (.ref b364)])) _
        refine XS.dup X410.here hx rfl (hb hby own_d9_719) rfl rfl ?_
        show Steps p.tables e below (T410.setTop (mkF m 720 #[.val (.ref ar), .val (.int n1)] [(.ref b366), (.ref b366), (.ref b364), (.ref b364)])) _
        refine XS.bipush X410.here hx rfl (hb hby own_d9_720) ?_
        show Steps p.tables e below (T410.setTop (mkF m 722 #[.val (.ref ar), .val (.int n1)] [(.int 11), (.ref b366), (.ref b366), (.ref b364), (.ref b364)])) _
        refine XS.aloadN X410.here hx rfl (hb hby own_d9_722) rfl rfl ?_
        show Steps p.tables e below (T410.setTop (mkF m 723 #[.val (.ref ar), .val (.int n1)] [(.ref ar), (.int 11), (.ref b366), (.ref b366), (.ref b364), (.ref b364)])) _
        refine XS.bipush X410.here hx rfl (hb hby own_d9_723) ?_
        show Steps p.tables e below (T410.setTop (mkF m 725 #[.val (.ref ar), .val (.int n1)] [(.int 11), (.ref ar), (.int 11), (.ref b366), (.ref b366), (.ref b364), (.ref b364)])) _
        refine X410.caload hx (j := (11 : Int32)) (v := (.int c11)) (by rw [e410]; exact Ar412.1) (State.isArrayOf_alike hZ.alike Ar412.2.1) Ar412.2.2 hin412 (H412.at hin412 rfl) (g := (mkF m 725 #[.val (.ref ar), .val (.int n1)] [(.int 11), (.ref ar), (.int 11), (.ref b366), (.ref b366), (.ref b364), (.ref b364)])) rfl rfl (hb hby own_d9_725) _ ?_
        show Steps p.tables e below (T410.setTop (mkF m 726 #[.val (.ref ar), .val (.int n1)] [(.int c11), (.int 11), (.ref b366), (.ref b366), (.ref b364), (.ref b364)])) _
        refine st414 _ ?_
        show Steps p.tables e below (T414.setTop (mkF m 727 #[.val (.ref ar), .val (.int n1)] [(.ref b366), (.ref b364), (.ref b364)])) _
        refine st416.trans ?_
        show Steps p.tables e below (T416.setTop (mkF m 730 #[.val (.ref ar), .val (.int n1)] [(.ref b364)])) _
        exact retOut X416 hx (t := (.object "java/lang/String")) Bd.returns rfl (Or.inr (Or.inr (Or.inr (Or.inr ⟨rfl, rfl, rfl⟩)))) (hb hby own_d9_730) hr
      have hnk : nn = 12 := own_nk hnn hc363 hn13 (by decide)
      · show own_Q_own_prefix Z ar n1 Ts cz ka AA nn h0 n0 _ T416.heap _
        subst hnk
        exact ⟨b364, b416, kb416, rfl, N416, KP, Ee416, Fc416, Fv416, by rw [eA]; exact VB416⟩
  obtain ⟨T418, h418, X418, e418, E418, A418, D418, U418, st418⟩ := newO X0 hx hZ hown (hw _ (own_m (i := 54) rfl)) (hw _ (own_m (i := 2) rfl)) (hw _ (own_m (i := 1) rfl)) e0 (g := (mkF m 731 #[.val (.ref ar), .val (.int n1)] [])) rfl (hb hby own_d9_731) (by decide) (by decide)
  obtain ⟨b418, g418⟩ : ∃ z, z = h0.size := ⟨_, rfl⟩
  rw [← g418] at A418 D418 U418 st418
  have g_b418 : n0 ≤ b418 := Nat.le_trans Z0 (Nat.le_of_eq g418.symm)
  have sz_b418 : h0.size ≤ b418 := Nat.le_trans KP.1 (Nat.le_of_eq g418.symm)
  have ne_ar_b418 : ar ≠ b418 := Nat.ne_of_lt (Nat.lt_of_lt_of_le Va.lt (Nat.le_of_eq g418.symm))
  have O := O.ext E418
  have Va := Va.ext E418
  have hk := Nat.le_trans hk E418.1
  have Z419 : n0 ≤ h418.size := Nat.le_trans Z0 E418.1
  have KP := KP.ext E418
  have F_value_b418 : Fld Z h418 b418 "java/lang/String" "value" "[B" .null := D418 (Or.inr (hw _ (own_m (i := 4) rfl))) (ty := (.array .byte)) (by decide)
  have F_coder_b418 : Fld Z h418 b418 "java/lang/String" "coder" "B" (.int 0) := D418 (Or.inr (hw _ (own_m (i := 5) rfl))) (ty := .byte) (by decide)
  have E_b418 := A418
  obtain ⟨T420, h420, k420, X420, e420, E420, A420, st420⟩ := newP X418 hx hZ (hw _ (own_m (i := 24) rfl)) e418 (g := (mkF m 737 #[.val (.ref ar), .val (.int n1)] [(.int 13), (.ref b418), (.ref b418)])) rfl (hb hby own_d9_737) rfl (by decide) (cap := 13) (by decide) (by decide) (by decide) (by decide)
  obtain ⟨b420, g420⟩ : ∃ z, z = h418.size := ⟨_, rfl⟩
  rw [← g420] at A420 st420
  have g_b420 : n0 ≤ b420 := Nat.le_trans Z419 (Nat.le_of_eq g420.symm)
  have sz_b420 : h0.size ≤ b420 := Nat.le_trans KP.1 (Nat.le_of_eq g420.symm)
  have ne_ar_b420 : ar ≠ b420 := Nat.ne_of_lt (Nat.lt_of_lt_of_le Va.lt (Nat.le_of_eq g420.symm))
  have ne_b418_b420 : b418 ≠ b420 := Nat.ne_of_lt (Nat.lt_of_lt_of_le F_value_b418.lt (Nat.le_of_eq g420.symm))
  have O := O.ext E420
  have Va := Va.ext E420
  have F_value_b418 := F_value_b418.ext E420
  have F_coder_b418 := F_coder_b418.ext E420
  have E_b418 := E_b418.ext E420
  have hk := Nat.le_trans hk E420.1
  have Z421 : n0 ≤ h420.size := Nat.le_trans Z419 E420.1
  have KP := KP.ext E420
  have V_b420 : Arv Z h420 b420 k420 .char (13 : Int32) [(.int 0), (.int 0), (.int 0), (.int 0), (.int 0), (.int 0), (.int 0), (.int 0), (.int 0), (.int 0), (.int 0), (.int 0), (.int 0)] (.int 0) := (Arv.new A420 (by decide)).pad (pad_rep [] (.int 0) 13)
  obtain ⟨cl422, Ar422, q422, S422, M422, H422, G422⟩ := id Va
  have hin422 : ¬ ((0 : Int32) < 0 ∨ cl422.slots.size ≤ ((0 : Int32)).toNatClampNeg) := inb_of S422 ⟨by decide, by decide⟩
  obtain ⟨cl423, Ar423, q423, S423, M423, H423, G423⟩ := id V_b420
  have hin423 : ¬ ((0 : Int32) < 0 ∨ cl423.slots.size ≤ ((0 : Int32)).toNatClampNeg) := inb_of S423 ⟨by decide, by decide⟩
  obtain ⟨T424, h424, X424, e424, W424, st424⟩ := stC X420 hx hZ e420 Ar423 (j := (0 : Int32)) hin423 (g := (mkF m 744 #[.val (.ref ar), .val (.int n1)] [(.int c0), (.int 0), (.ref b420), (.ref b420), (.ref b418), (.ref b418)])) rfl rfl (hb hby own_d9_744)
  have O := O.wr W424 g_b420
  have Va := Va.other W424 ne_ar_b420
  have F_value_b418 := F_value_b418.other W424 (Or.inl ne_b418_b420)
  have F_coder_b418 := F_coder_b418.other W424 (Or.inl ne_b418_b420)
  have E_b418 := E_b418.wr W424
  have hk := Nat.le_trans hk (Keep.of_wr W424).1
  have Z425 : n0 ≤ h424.size := Nat.le_trans Z421 (Keep.of_wr W424).1
  have KP := KP.wr W424 (Or.inr sz_b420)
  have V_b420 := Arv.set Ar423 q423 S423 M423 H423 G423 (fits_nar_char _) W424 0 rfl (Nat.le_of_ble_eq_true rfl)
  have V_b420 : Arv Z h424 b420 k420 .char (13 : Int32) [(.int c0), (.int 0), (.int 0), (.int 0), (.int 0), (.int 0), (.int 0), (.int 0), (.int 0), (.int 0), (.int 0), (.int 0), (.int 0)] (.int 0) := by have q := V_b420; simp only [nc0, List.set] at q; exact q
  have N424 := Fr.snoc X424 N0 g_b420
  obtain ⟨cl426, Ar426, q426, S426, M426, H426, G426⟩ := id Va
  have hin426 : ¬ ((1 : Int32) < 0 ∨ cl426.slots.size ≤ ((1 : Int32)).toNatClampNeg) := inb_of S426 ⟨by decide, by decide⟩
  obtain ⟨cl427, Ar427, q427, S427, M427, H427, G427⟩ := id V_b420
  have hin427 : ¬ ((1 : Int32) < 0 ∨ cl427.slots.size ≤ ((1 : Int32)).toNatClampNeg) := inb_of S427 ⟨by decide, by decide⟩
  obtain ⟨T428, h428, X428, e428, W428, st428⟩ := stC X424 hx hZ e424 Ar427 (j := (1 : Int32)) hin427 (g := (mkF m 750 #[.val (.ref ar), .val (.int n1)] [(.int c1), (.int 1), (.ref b420), (.ref b420), (.ref b418), (.ref b418)])) rfl rfl (hb hby own_d9_750)
  have O := O.wr W428 g_b420
  have Va := Va.other W428 ne_ar_b420
  have F_value_b418 := F_value_b418.other W428 (Or.inl ne_b418_b420)
  have F_coder_b418 := F_coder_b418.other W428 (Or.inl ne_b418_b420)
  have E_b418 := E_b418.wr W428
  have hk := Nat.le_trans hk (Keep.of_wr W428).1
  have Z429 : n0 ≤ h428.size := Nat.le_trans Z425 (Keep.of_wr W428).1
  have KP := KP.wr W428 (Or.inr sz_b420)
  have V_b420 := Arv.set Ar427 q427 S427 M427 H427 G427 (fits_nar_char _) W428 1 rfl (Nat.le_of_ble_eq_true rfl)
  have V_b420 : Arv Z h428 b420 k420 .char (13 : Int32) [(.int c0), (.int c1), (.int 0), (.int 0), (.int 0), (.int 0), (.int 0), (.int 0), (.int 0), (.int 0), (.int 0), (.int 0), (.int 0)] (.int 0) := by have q := V_b420; simp only [nc1, List.set] at q; exact q
  have N428 := Fr.snoc X428 N424 g_b420
  obtain ⟨cl430, Ar430, q430, S430, M430, H430, G430⟩ := id Va
  have hin430 : ¬ ((2 : Int32) < 0 ∨ cl430.slots.size ≤ ((2 : Int32)).toNatClampNeg) := inb_of S430 ⟨by decide, by decide⟩
  obtain ⟨cl431, Ar431, q431, S431, M431, H431, G431⟩ := id V_b420
  have hin431 : ¬ ((2 : Int32) < 0 ∨ cl431.slots.size ≤ ((2 : Int32)).toNatClampNeg) := inb_of S431 ⟨by decide, by decide⟩
  obtain ⟨T432, h432, X432, e432, W432, st432⟩ := stC X428 hx hZ e428 Ar431 (j := (2 : Int32)) hin431 (g := (mkF m 756 #[.val (.ref ar), .val (.int n1)] [(.int c2), (.int 2), (.ref b420), (.ref b420), (.ref b418), (.ref b418)])) rfl rfl (hb hby own_d9_756)
  have O := O.wr W432 g_b420
  have Va := Va.other W432 ne_ar_b420
  have F_value_b418 := F_value_b418.other W432 (Or.inl ne_b418_b420)
  have F_coder_b418 := F_coder_b418.other W432 (Or.inl ne_b418_b420)
  have E_b418 := E_b418.wr W432
  have hk := Nat.le_trans hk (Keep.of_wr W432).1
  have Z433 : n0 ≤ h432.size := Nat.le_trans Z429 (Keep.of_wr W432).1
  have KP := KP.wr W432 (Or.inr sz_b420)
  have V_b420 := Arv.set Ar431 q431 S431 M431 H431 G431 (fits_nar_char _) W432 2 rfl (Nat.le_of_ble_eq_true rfl)
  have V_b420 : Arv Z h432 b420 k420 .char (13 : Int32) [(.int c0), (.int c1), (.int c2), (.int 0), (.int 0), (.int 0), (.int 0), (.int 0), (.int 0), (.int 0), (.int 0), (.int 0), (.int 0)] (.int 0) := by have q := V_b420; simp only [nc2, List.set] at q; exact q
  have N432 := Fr.snoc X432 N428 g_b420
  obtain ⟨cl434, Ar434, q434, S434, M434, H434, G434⟩ := id Va
  have hin434 : ¬ ((3 : Int32) < 0 ∨ cl434.slots.size ≤ ((3 : Int32)).toNatClampNeg) := inb_of S434 ⟨by decide, by decide⟩
  obtain ⟨cl435, Ar435, q435, S435, M435, H435, G435⟩ := id V_b420
  have hin435 : ¬ ((3 : Int32) < 0 ∨ cl435.slots.size ≤ ((3 : Int32)).toNatClampNeg) := inb_of S435 ⟨by decide, by decide⟩
  obtain ⟨T436, h436, X436, e436, W436, st436⟩ := stC X432 hx hZ e432 Ar435 (j := (3 : Int32)) hin435 (g := (mkF m 762 #[.val (.ref ar), .val (.int n1)] [(.int c3), (.int 3), (.ref b420), (.ref b420), (.ref b418), (.ref b418)])) rfl rfl (hb hby own_d9_762)
  have O := O.wr W436 g_b420
  have Va := Va.other W436 ne_ar_b420
  have F_value_b418 := F_value_b418.other W436 (Or.inl ne_b418_b420)
  have F_coder_b418 := F_coder_b418.other W436 (Or.inl ne_b418_b420)
  have E_b418 := E_b418.wr W436
  have hk := Nat.le_trans hk (Keep.of_wr W436).1
  have Z437 : n0 ≤ h436.size := Nat.le_trans Z433 (Keep.of_wr W436).1
  have KP := KP.wr W436 (Or.inr sz_b420)
  have V_b420 := Arv.set Ar435 q435 S435 M435 H435 G435 (fits_nar_char _) W436 3 rfl (Nat.le_of_ble_eq_true rfl)
  have V_b420 : Arv Z h436 b420 k420 .char (13 : Int32) [(.int c0), (.int c1), (.int c2), (.int c3), (.int 0), (.int 0), (.int 0), (.int 0), (.int 0), (.int 0), (.int 0), (.int 0), (.int 0)] (.int 0) := by have q := V_b420; simp only [nc3, List.set] at q; exact q
  have N436 := Fr.snoc X436 N432 g_b420
  obtain ⟨cl438, Ar438, q438, S438, M438, H438, G438⟩ := id Va
  have hin438 : ¬ ((4 : Int32) < 0 ∨ cl438.slots.size ≤ ((4 : Int32)).toNatClampNeg) := inb_of S438 ⟨by decide, by decide⟩
  obtain ⟨cl439, Ar439, q439, S439, M439, H439, G439⟩ := id V_b420
  have hin439 : ¬ ((4 : Int32) < 0 ∨ cl439.slots.size ≤ ((4 : Int32)).toNatClampNeg) := inb_of S439 ⟨by decide, by decide⟩
  obtain ⟨T440, h440, X440, e440, W440, st440⟩ := stC X436 hx hZ e436 Ar439 (j := (4 : Int32)) hin439 (g := (mkF m 768 #[.val (.ref ar), .val (.int n1)] [(.int c4), (.int 4), (.ref b420), (.ref b420), (.ref b418), (.ref b418)])) rfl rfl (hb hby own_d9_768)
  have O := O.wr W440 g_b420
  have Va := Va.other W440 ne_ar_b420
  have F_value_b418 := F_value_b418.other W440 (Or.inl ne_b418_b420)
  have F_coder_b418 := F_coder_b418.other W440 (Or.inl ne_b418_b420)
  have E_b418 := E_b418.wr W440
  have hk := Nat.le_trans hk (Keep.of_wr W440).1
  have Z441 : n0 ≤ h440.size := Nat.le_trans Z437 (Keep.of_wr W440).1
  have KP := KP.wr W440 (Or.inr sz_b420)
  have V_b420 := Arv.set Ar439 q439 S439 M439 H439 G439 (fits_nar_char _) W440 4 rfl (Nat.le_of_ble_eq_true rfl)
  have V_b420 : Arv Z h440 b420 k420 .char (13 : Int32) [(.int c0), (.int c1), (.int c2), (.int c3), (.int c4), (.int 0), (.int 0), (.int 0), (.int 0), (.int 0), (.int 0), (.int 0), (.int 0)] (.int 0) := by have q := V_b420; simp only [nc4, List.set] at q; exact q
  have N440 := Fr.snoc X440 N436 g_b420
  obtain ⟨cl442, Ar442, q442, S442, M442, H442, G442⟩ := id Va
  have hin442 : ¬ ((5 : Int32) < 0 ∨ cl442.slots.size ≤ ((5 : Int32)).toNatClampNeg) := inb_of S442 ⟨by decide, by decide⟩
  obtain ⟨cl443, Ar443, q443, S443, M443, H443, G443⟩ := id V_b420
  have hin443 : ¬ ((5 : Int32) < 0 ∨ cl443.slots.size ≤ ((5 : Int32)).toNatClampNeg) := inb_of S443 ⟨by decide, by decide⟩
  obtain ⟨T444, h444, X444, e444, W444, st444⟩ := stC X440 hx hZ e440 Ar443 (j := (5 : Int32)) hin443 (g := (mkF m 774 #[.val (.ref ar), .val (.int n1)] [(.int c5), (.int 5), (.ref b420), (.ref b420), (.ref b418), (.ref b418)])) rfl rfl (hb hby own_d9_774)
  have O := O.wr W444 g_b420
  have Va := Va.other W444 ne_ar_b420
  have F_value_b418 := F_value_b418.other W444 (Or.inl ne_b418_b420)
  have F_coder_b418 := F_coder_b418.other W444 (Or.inl ne_b418_b420)
  have E_b418 := E_b418.wr W444
  have hk := Nat.le_trans hk (Keep.of_wr W444).1
  have Z445 : n0 ≤ h444.size := Nat.le_trans Z441 (Keep.of_wr W444).1
  have KP := KP.wr W444 (Or.inr sz_b420)
  have V_b420 := Arv.set Ar443 q443 S443 M443 H443 G443 (fits_nar_char _) W444 5 rfl (Nat.le_of_ble_eq_true rfl)
  have V_b420 : Arv Z h444 b420 k420 .char (13 : Int32) [(.int c0), (.int c1), (.int c2), (.int c3), (.int c4), (.int c5), (.int 0), (.int 0), (.int 0), (.int 0), (.int 0), (.int 0), (.int 0)] (.int 0) := by have q := V_b420; simp only [nc5, List.set] at q; exact q
  have N444 := Fr.snoc X444 N440 g_b420
  obtain ⟨cl446, Ar446, q446, S446, M446, H446, G446⟩ := id Va
  have hin446 : ¬ ((6 : Int32) < 0 ∨ cl446.slots.size ≤ ((6 : Int32)).toNatClampNeg) := inb_of S446 ⟨by decide, by decide⟩
  obtain ⟨cl447, Ar447, q447, S447, M447, H447, G447⟩ := id V_b420
  have hin447 : ¬ ((6 : Int32) < 0 ∨ cl447.slots.size ≤ ((6 : Int32)).toNatClampNeg) := inb_of S447 ⟨by decide, by decide⟩
  obtain ⟨T448, h448, X448, e448, W448, st448⟩ := stC X444 hx hZ e444 Ar447 (j := (6 : Int32)) hin447 (g := (mkF m 782 #[.val (.ref ar), .val (.int n1)] [(.int c6), (.int 6), (.ref b420), (.ref b420), (.ref b418), (.ref b418)])) rfl rfl (hb hby own_d9_782)
  have O := O.wr W448 g_b420
  have Va := Va.other W448 ne_ar_b420
  have F_value_b418 := F_value_b418.other W448 (Or.inl ne_b418_b420)
  have F_coder_b418 := F_coder_b418.other W448 (Or.inl ne_b418_b420)
  have E_b418 := E_b418.wr W448
  have hk := Nat.le_trans hk (Keep.of_wr W448).1
  have Z449 : n0 ≤ h448.size := Nat.le_trans Z445 (Keep.of_wr W448).1
  have KP := KP.wr W448 (Or.inr sz_b420)
  have V_b420 := Arv.set Ar447 q447 S447 M447 H447 G447 (fits_nar_char _) W448 6 rfl (Nat.le_of_ble_eq_true rfl)
  have V_b420 : Arv Z h448 b420 k420 .char (13 : Int32) [(.int c0), (.int c1), (.int c2), (.int c3), (.int c4), (.int c5), (.int c6), (.int 0), (.int 0), (.int 0), (.int 0), (.int 0), (.int 0)] (.int 0) := by have q := V_b420; simp only [nc6, List.set] at q; exact q
  have N448 := Fr.snoc X448 N444 g_b420
  obtain ⟨cl450, Ar450, q450, S450, M450, H450, G450⟩ := id Va
  have hin450 : ¬ ((7 : Int32) < 0 ∨ cl450.slots.size ≤ ((7 : Int32)).toNatClampNeg) := inb_of S450 ⟨by decide, by decide⟩
  obtain ⟨cl451, Ar451, q451, S451, M451, H451, G451⟩ := id V_b420
  have hin451 : ¬ ((7 : Int32) < 0 ∨ cl451.slots.size ≤ ((7 : Int32)).toNatClampNeg) := inb_of S451 ⟨by decide, by decide⟩
  obtain ⟨T452, h452, X452, e452, W452, st452⟩ := stC X448 hx hZ e448 Ar451 (j := (7 : Int32)) hin451 (g := (mkF m 790 #[.val (.ref ar), .val (.int n1)] [(.int c7), (.int 7), (.ref b420), (.ref b420), (.ref b418), (.ref b418)])) rfl rfl (hb hby own_d9_790)
  have O := O.wr W452 g_b420
  have Va := Va.other W452 ne_ar_b420
  have F_value_b418 := F_value_b418.other W452 (Or.inl ne_b418_b420)
  have F_coder_b418 := F_coder_b418.other W452 (Or.inl ne_b418_b420)
  have E_b418 := E_b418.wr W452
  have hk := Nat.le_trans hk (Keep.of_wr W452).1
  have Z453 : n0 ≤ h452.size := Nat.le_trans Z449 (Keep.of_wr W452).1
  have KP := KP.wr W452 (Or.inr sz_b420)
  have V_b420 := Arv.set Ar451 q451 S451 M451 H451 G451 (fits_nar_char _) W452 7 rfl (Nat.le_of_ble_eq_true rfl)
  have V_b420 : Arv Z h452 b420 k420 .char (13 : Int32) [(.int c0), (.int c1), (.int c2), (.int c3), (.int c4), (.int c5), (.int c6), (.int c7), (.int 0), (.int 0), (.int 0), (.int 0), (.int 0)] (.int 0) := by have q := V_b420; simp only [nc7, List.set] at q; exact q
  have N452 := Fr.snoc X452 N448 g_b420
  obtain ⟨cl454, Ar454, q454, S454, M454, H454, G454⟩ := id Va
  have hin454 : ¬ ((8 : Int32) < 0 ∨ cl454.slots.size ≤ ((8 : Int32)).toNatClampNeg) := inb_of S454 ⟨by decide, by decide⟩
  obtain ⟨cl455, Ar455, q455, S455, M455, H455, G455⟩ := id V_b420
  have hin455 : ¬ ((8 : Int32) < 0 ∨ cl455.slots.size ≤ ((8 : Int32)).toNatClampNeg) := inb_of S455 ⟨by decide, by decide⟩
  obtain ⟨T456, h456, X456, e456, W456, st456⟩ := stC X452 hx hZ e452 Ar455 (j := (8 : Int32)) hin455 (g := (mkF m 798 #[.val (.ref ar), .val (.int n1)] [(.int c8), (.int 8), (.ref b420), (.ref b420), (.ref b418), (.ref b418)])) rfl rfl (hb hby own_d9_798)
  have O := O.wr W456 g_b420
  have Va := Va.other W456 ne_ar_b420
  have F_value_b418 := F_value_b418.other W456 (Or.inl ne_b418_b420)
  have F_coder_b418 := F_coder_b418.other W456 (Or.inl ne_b418_b420)
  have E_b418 := E_b418.wr W456
  have hk := Nat.le_trans hk (Keep.of_wr W456).1
  have Z457 : n0 ≤ h456.size := Nat.le_trans Z453 (Keep.of_wr W456).1
  have KP := KP.wr W456 (Or.inr sz_b420)
  have V_b420 := Arv.set Ar455 q455 S455 M455 H455 G455 (fits_nar_char _) W456 8 rfl (Nat.le_of_ble_eq_true rfl)
  have V_b420 : Arv Z h456 b420 k420 .char (13 : Int32) [(.int c0), (.int c1), (.int c2), (.int c3), (.int c4), (.int c5), (.int c6), (.int c7), (.int c8), (.int 0), (.int 0), (.int 0), (.int 0)] (.int 0) := by have q := V_b420; simp only [nc8, List.set] at q; exact q
  have N456 := Fr.snoc X456 N452 g_b420
  obtain ⟨cl458, Ar458, q458, S458, M458, H458, G458⟩ := id Va
  have hin458 : ¬ ((9 : Int32) < 0 ∨ cl458.slots.size ≤ ((9 : Int32)).toNatClampNeg) := inb_of S458 ⟨by decide, by decide⟩
  obtain ⟨cl459, Ar459, q459, S459, M459, H459, G459⟩ := id V_b420
  have hin459 : ¬ ((9 : Int32) < 0 ∨ cl459.slots.size ≤ ((9 : Int32)).toNatClampNeg) := inb_of S459 ⟨by decide, by decide⟩
  obtain ⟨T460, h460, X460, e460, W460, st460⟩ := stC X456 hx hZ e456 Ar459 (j := (9 : Int32)) hin459 (g := (mkF m 806 #[.val (.ref ar), .val (.int n1)] [(.int c9), (.int 9), (.ref b420), (.ref b420), (.ref b418), (.ref b418)])) rfl rfl (hb hby own_d9_806)
  have O := O.wr W460 g_b420
  have Va := Va.other W460 ne_ar_b420
  have F_value_b418 := F_value_b418.other W460 (Or.inl ne_b418_b420)
  have F_coder_b418 := F_coder_b418.other W460 (Or.inl ne_b418_b420)
  have E_b418 := E_b418.wr W460
  have hk := Nat.le_trans hk (Keep.of_wr W460).1
  have Z461 : n0 ≤ h460.size := Nat.le_trans Z457 (Keep.of_wr W460).1
  have KP := KP.wr W460 (Or.inr sz_b420)
  have V_b420 := Arv.set Ar459 q459 S459 M459 H459 G459 (fits_nar_char _) W460 9 rfl (Nat.le_of_ble_eq_true rfl)
  have V_b420 : Arv Z h460 b420 k420 .char (13 : Int32) [(.int c0), (.int c1), (.int c2), (.int c3), (.int c4), (.int c5), (.int c6), (.int c7), (.int c8), (.int c9), (.int 0), (.int 0), (.int 0)] (.int 0) := by have q := V_b420; simp only [nc9, List.set] at q; exact q
  have N460 := Fr.snoc X460 N456 g_b420
  obtain ⟨cl462, Ar462, q462, S462, M462, H462, G462⟩ := id Va
  have hin462 : ¬ ((10 : Int32) < 0 ∨ cl462.slots.size ≤ ((10 : Int32)).toNatClampNeg) := inb_of S462 ⟨by decide, by decide⟩
  obtain ⟨cl463, Ar463, q463, S463, M463, H463, G463⟩ := id V_b420
  have hin463 : ¬ ((10 : Int32) < 0 ∨ cl463.slots.size ≤ ((10 : Int32)).toNatClampNeg) := inb_of S463 ⟨by decide, by decide⟩
  obtain ⟨T464, h464, X464, e464, W464, st464⟩ := stC X460 hx hZ e460 Ar463 (j := (10 : Int32)) hin463 (g := (mkF m 814 #[.val (.ref ar), .val (.int n1)] [(.int c10), (.int 10), (.ref b420), (.ref b420), (.ref b418), (.ref b418)])) rfl rfl (hb hby own_d9_814)
  have O := O.wr W464 g_b420
  have Va := Va.other W464 ne_ar_b420
  have F_value_b418 := F_value_b418.other W464 (Or.inl ne_b418_b420)
  have F_coder_b418 := F_coder_b418.other W464 (Or.inl ne_b418_b420)
  have E_b418 := E_b418.wr W464
  have hk := Nat.le_trans hk (Keep.of_wr W464).1
  have Z465 : n0 ≤ h464.size := Nat.le_trans Z461 (Keep.of_wr W464).1
  have KP := KP.wr W464 (Or.inr sz_b420)
  have V_b420 := Arv.set Ar463 q463 S463 M463 H463 G463 (fits_nar_char _) W464 10 rfl (Nat.le_of_ble_eq_true rfl)
  have V_b420 : Arv Z h464 b420 k420 .char (13 : Int32) [(.int c0), (.int c1), (.int c2), (.int c3), (.int c4), (.int c5), (.int c6), (.int c7), (.int c8), (.int c9), (.int c10), (.int 0), (.int 0)] (.int 0) := by have q := V_b420; simp only [nc10, List.set] at q; exact q
  have N464 := Fr.snoc X464 N460 g_b420
  obtain ⟨cl466, Ar466, q466, S466, M466, H466, G466⟩ := id Va
  have hin466 : ¬ ((11 : Int32) < 0 ∨ cl466.slots.size ≤ ((11 : Int32)).toNatClampNeg) := inb_of S466 ⟨by decide, by decide⟩
  obtain ⟨cl467, Ar467, q467, S467, M467, H467, G467⟩ := id V_b420
  have hin467 : ¬ ((11 : Int32) < 0 ∨ cl467.slots.size ≤ ((11 : Int32)).toNatClampNeg) := inb_of S467 ⟨by decide, by decide⟩
  obtain ⟨T468, h468, X468, e468, W468, st468⟩ := stC X464 hx hZ e464 Ar467 (j := (11 : Int32)) hin467 (g := (mkF m 822 #[.val (.ref ar), .val (.int n1)] [(.int c11), (.int 11), (.ref b420), (.ref b420), (.ref b418), (.ref b418)])) rfl rfl (hb hby own_d9_822)
  have O := O.wr W468 g_b420
  have Va := Va.other W468 ne_ar_b420
  have F_value_b418 := F_value_b418.other W468 (Or.inl ne_b418_b420)
  have F_coder_b418 := F_coder_b418.other W468 (Or.inl ne_b418_b420)
  have E_b418 := E_b418.wr W468
  have hk := Nat.le_trans hk (Keep.of_wr W468).1
  have Z469 : n0 ≤ h468.size := Nat.le_trans Z465 (Keep.of_wr W468).1
  have KP := KP.wr W468 (Or.inr sz_b420)
  have V_b420 := Arv.set Ar467 q467 S467 M467 H467 G467 (fits_nar_char _) W468 11 rfl (Nat.le_of_ble_eq_true rfl)
  have V_b420 : Arv Z h468 b420 k420 .char (13 : Int32) [(.int c0), (.int c1), (.int c2), (.int c3), (.int c4), (.int c5), (.int c6), (.int c7), (.int c8), (.int c9), (.int c10), (.int c11), (.int 0)] (.int 0) := by have q := V_b420; simp only [nc11, List.set] at q; exact q
  have N468 := Fr.snoc X468 N464 g_b420
  obtain ⟨cl470, Ar470, q470, S470, M470, H470, G470⟩ := id Va
  have hin470 : ¬ ((12 : Int32) < 0 ∨ cl470.slots.size ≤ ((12 : Int32)).toNatClampNeg) := inb_of S470 ⟨by decide, by decide⟩
  obtain ⟨cl471, Ar471, q471, S471, M471, H471, G471⟩ := id V_b420
  have hin471 : ¬ ((12 : Int32) < 0 ∨ cl471.slots.size ≤ ((12 : Int32)).toNatClampNeg) := inb_of S471 ⟨by decide, by decide⟩
  obtain ⟨T472, h472, X472, e472, W472, st472⟩ := stC X468 hx hZ e468 Ar471 (j := (12 : Int32)) hin471 (g := (mkF m 830 #[.val (.ref ar), .val (.int n1)] [(.int c12), (.int 12), (.ref b420), (.ref b420), (.ref b418), (.ref b418)])) rfl rfl (hb hby own_d9_830)
  have O := O.wr W472 g_b420
  have Va := Va.other W472 ne_ar_b420
  have F_value_b418 := F_value_b418.other W472 (Or.inl ne_b418_b420)
  have F_coder_b418 := F_coder_b418.other W472 (Or.inl ne_b418_b420)
  have E_b418 := E_b418.wr W472
  have hk := Nat.le_trans hk (Keep.of_wr W472).1
  have Z473 : n0 ≤ h472.size := Nat.le_trans Z469 (Keep.of_wr W472).1
  have KP := KP.wr W472 (Or.inr sz_b420)
  have V_b420 := Arv.set Ar471 q471 S471 M471 H471 G471 (fits_nar_char _) W472 12 rfl (Nat.le_of_ble_eq_true rfl)
  have V_b420 : Arv Z h472 b420 k420 .char (13 : Int32) [(.int c0), (.int c1), (.int c2), (.int c3), (.int c4), (.int c5), (.int c6), (.int c7), (.int c8), (.int c9), (.int c10), (.int c11), (.int c12)] (.int 0) := by have q := V_b420; simp only [nc12, List.set] at q; exact q
  have N472 := Fr.snoc X472 N468 g_b420
  obtain ⟨_, _, ⟨T474, L474, k474, n474⟩, -, X474, ⟨Lc474, hQ474, l474, y474, z474⟩, st474⟩ := X472.specialBack hx (y := (⟨"java/lang/String", "<init>", "([C)V"⟩ : MethodName)) rfl hown (mvT hZ (hw _ (own_m (i := 55) rfl))) (mvT hZ (hw _ (own_m (i := 56) rfl))) (mvT hZ (hw _ (own_m (i := 57) rfl))) (by decide) (StrChars.Road.backV (W := 1) hZ (fun d hd => hw d ((by decide +kernel : ∀ d ∈ StrChars.Road.words, d ∈ tables_1) d hd)) (kI := 4) (hw _ (own_m (i := 2) rfl)) (cs := ([c0, c1, c2, c3, c4, c5, c6, c7, c8, c9, c10, c11, c12] : List Int32)) (bs := List.map (fun c => c.toInt8.toInt32) ([c0, c1, c2, c3, c4, c5, c6, c7, c8, c9, c10, c11, c12] : List Int32)) (n := 13) (n0 := n0) g_b418 Z473 E_b418 F_value_b418 F_coder_b418 V_b420 (S0.ext O.2) hcz rfl rfl (by decide) (by decide) (fun c hc => okA c (List.mem_of_mem_take (i := 13) hc)) rfl (by decide) (by decide)) (g := (mkF m 831 #[.val (.ref ar), .val (.int n1)] [(.ref b420), (.ref b418), (.ref b418)])) rfl (by rw [hml]; rfl) (Steps.refl _) (a := b418) (argsL := [(.ref b420)]) (rest := [(.ref b418)]) (lenOf own_pd4 rfl) rfl (by show 2 * 0 + _ ≤ _; exact Nat.le_of_eq rfl) (hb hby own_d9_831) (fun _ _ => ⟨rfl, e472, (by decide : 2 + 1 ≤ _), (by decide : 17 + 13 ≤ _)⟩)
  dsimp only [Pt.U, Pt.locs, Pt.cells, Pt.slots] at X474 l474 y474 z474 st474 hQ474
  subst l474 y474 z474
  obtain ⟨rfl, N474q, K474, Ee474, Fc474, b474, kb474, g1474, sz474, nx474, Fv474, VB474⟩ := hQ474
  have N474 := Fr.app N472 N474q
  have O := O.keep K474 (allS g_b418 all0)
  have E_b418 := E_b418.keep K474
  have V_b420 := V_b420.keep K474 (ninS (Ne.symm ne_b418_b420) nin0)
  have hk := Nat.le_trans hk K474.1
  have Z475 := Nat.le_trans Z473 K474.1
  have KP := KP.trans K474 (allS (Or.inr sz_b418) all0)
  obtain ⟨fs, hr, hrun, hended, hRW⟩ := X474.leaveW hS hk (v := some (.ref b418)) (fun h => by rw [Bd.returns] at h; cases h)
  refine ⟨_, _, pre362 _ ?_, hrun, hended, _, _, rfl, ?_, hRW.1, hRW.2.1, hRW.2.2.1, hRW.2.2.2.mono (by decide) (by decide)⟩
  · refine XS.icmpYes X0.here hx rfl (pc0 := 632) (pc' := 731) rfl (hb hby own_d9_632) rfl (feq hc363).2 (by decide) (by decide) ?_
    show Steps p.tables e below (s₁.setTop (mkF m 731 #[.val (.ref ar), .val (.int n1)] [])) _
    refine st418 _ ?_
    show Steps p.tables e below (T418.setTop (mkF m 734 #[.val (.ref ar), .val (.int n1)] [(.ref b418)])) _
    refine XS.dup X418.here hx rfl (hb hby own_d9_734) rfl rfl ?_
    show Steps p.tables e below (T418.setTop (mkF m 735 #[.val (.ref ar), .val (.int n1)] [(.ref b418), (.ref b418)])) _
    refine XS.bipush X418.here hx rfl (hb hby own_d9_735) ?_
    show Steps p.tables e below (T418.setTop (mkF m 737 #[.val (.ref ar), .val (.int n1)] [(.int 13), (.ref b418), (.ref b418)])) _
    refine st420 _ ?_
    show Steps p.tables e below (T420.setTop (mkF m 739 #[.val (.ref ar), .val (.int n1)] [(.ref b420), (.ref b418), (.ref b418)])) _
    refine XS.dup X420.here hx rfl (hb hby own_d9_739) rfl rfl ?_
    show Steps p.tables e below (T420.setTop (mkF m 740 #[.val (.ref ar), .val (.int n1)] [(.ref b420), (.ref b420), (.ref b418), (.ref b418)])) _
    refine XS.iconst X420.here hx rfl (hb hby own_d9_740) ?_
    show Steps p.tables e below (T420.setTop (mkF m 741 #[.val (.ref ar), .val (.int n1)] [(.int 0), (.ref b420), (.ref b420), (.ref b418), (.ref b418)])) _
    refine XS.aloadN X420.here hx rfl (hb hby own_d9_741) rfl rfl ?_
    show Steps p.tables e below (T420.setTop (mkF m 742 #[.val (.ref ar), .val (.int n1)] [(.ref ar), (.int 0), (.ref b420), (.ref b420), (.ref b418), (.ref b418)])) _
    refine XS.iconst X420.here hx rfl (hb hby own_d9_742) ?_
    show Steps p.tables e below (T420.setTop (mkF m 743 #[.val (.ref ar), .val (.int n1)] [(.int 0), (.ref ar), (.int 0), (.ref b420), (.ref b420), (.ref b418), (.ref b418)])) _
    refine X420.caload hx (j := (0 : Int32)) (v := (.int c0)) (by rw [e420]; exact Ar422.1) (State.isArrayOf_alike hZ.alike Ar422.2.1) Ar422.2.2 hin422 (H422.at hin422 rfl) (g := (mkF m 743 #[.val (.ref ar), .val (.int n1)] [(.int 0), (.ref ar), (.int 0), (.ref b420), (.ref b420), (.ref b418), (.ref b418)])) rfl rfl (hb hby own_d9_743) _ ?_
    show Steps p.tables e below (T420.setTop (mkF m 744 #[.val (.ref ar), .val (.int n1)] [(.int c0), (.int 0), (.ref b420), (.ref b420), (.ref b418), (.ref b418)])) _
    refine st424 _ ?_
    show Steps p.tables e below (T424.setTop (mkF m 745 #[.val (.ref ar), .val (.int n1)] [(.ref b420), (.ref b418), (.ref b418)])) _
    refine XS.dup X424.here hx rfl (hb hby own_d9_745) rfl rfl ?_
    show Steps p.tables e below (T424.setTop (mkF m 746 #[.val (.ref ar), .val (.int n1)] [(.ref b420), (.ref b420), (.ref b418), (.ref b418)])) _
    refine XS.iconst X424.here hx rfl (hb hby own_d9_746) ?_
    show Steps p.tables e below (T424.setTop (mkF m 747 #[.val (.ref ar), .val (.int n1)] [(.int 1), (.ref b420), (.ref b420), (.ref b418), (.ref b418)])) _
    refine XS.aloadN X424.here hx rfl (hb hby own_d9_747) rfl rfl ?_
    show Steps p.tables e below (T424.setTop (mkF m 748 #[.val (.ref ar), .val (.int n1)] [(.ref ar), (.int 1), (.ref b420), (.ref b420), (.ref b418), (.ref b418)])) _
    refine XS.iconst X424.here hx rfl (hb hby own_d9_748) ?_
    show Steps p.tables e below (T424.setTop (mkF m 749 #[.val (.ref ar), .val (.int n1)] [(.int 1), (.ref ar), (.int 1), (.ref b420), (.ref b420), (.ref b418), (.ref b418)])) _
    refine X424.caload hx (j := (1 : Int32)) (v := (.int c1)) (by rw [e424]; exact Ar426.1) (State.isArrayOf_alike hZ.alike Ar426.2.1) Ar426.2.2 hin426 (H426.at hin426 rfl) (g := (mkF m 749 #[.val (.ref ar), .val (.int n1)] [(.int 1), (.ref ar), (.int 1), (.ref b420), (.ref b420), (.ref b418), (.ref b418)])) rfl rfl (hb hby own_d9_749) _ ?_
    show Steps p.tables e below (T424.setTop (mkF m 750 #[.val (.ref ar), .val (.int n1)] [(.int c1), (.int 1), (.ref b420), (.ref b420), (.ref b418), (.ref b418)])) _
    refine st428 _ ?_
    show Steps p.tables e below (T428.setTop (mkF m 751 #[.val (.ref ar), .val (.int n1)] [(.ref b420), (.ref b418), (.ref b418)])) _
    refine XS.dup X428.here hx rfl (hb hby own_d9_751) rfl rfl ?_
    show Steps p.tables e below (T428.setTop (mkF m 752 #[.val (.ref ar), .val (.int n1)] [(.ref b420), (.ref b420), (.ref b418), (.ref b418)])) _
    refine XS.iconst X428.here hx rfl (hb hby own_d9_752) ?_
    show Steps p.tables e below (T428.setTop (mkF m 753 #[.val (.ref ar), .val (.int n1)] [(.int 2), (.ref b420), (.ref b420), (.ref b418), (.ref b418)])) _
    refine XS.aloadN X428.here hx rfl (hb hby own_d9_753) rfl rfl ?_
    show Steps p.tables e below (T428.setTop (mkF m 754 #[.val (.ref ar), .val (.int n1)] [(.ref ar), (.int 2), (.ref b420), (.ref b420), (.ref b418), (.ref b418)])) _
    refine XS.iconst X428.here hx rfl (hb hby own_d9_754) ?_
    show Steps p.tables e below (T428.setTop (mkF m 755 #[.val (.ref ar), .val (.int n1)] [(.int 2), (.ref ar), (.int 2), (.ref b420), (.ref b420), (.ref b418), (.ref b418)])) _
    refine X428.caload hx (j := (2 : Int32)) (v := (.int c2)) (by rw [e428]; exact Ar430.1) (State.isArrayOf_alike hZ.alike Ar430.2.1) Ar430.2.2 hin430 (H430.at hin430 rfl) (g := (mkF m 755 #[.val (.ref ar), .val (.int n1)] [(.int 2), (.ref ar), (.int 2), (.ref b420), (.ref b420), (.ref b418), (.ref b418)])) rfl rfl (hb hby own_d9_755) _ ?_
    show Steps p.tables e below (T428.setTop (mkF m 756 #[.val (.ref ar), .val (.int n1)] [(.int c2), (.int 2), (.ref b420), (.ref b420), (.ref b418), (.ref b418)])) _
    refine st432 _ ?_
    show Steps p.tables e below (T432.setTop (mkF m 757 #[.val (.ref ar), .val (.int n1)] [(.ref b420), (.ref b418), (.ref b418)])) _
    refine XS.dup X432.here hx rfl (hb hby own_d9_757) rfl rfl ?_
    show Steps p.tables e below (T432.setTop (mkF m 758 #[.val (.ref ar), .val (.int n1)] [(.ref b420), (.ref b420), (.ref b418), (.ref b418)])) _
    refine XS.iconst X432.here hx rfl (hb hby own_d9_758) ?_
    show Steps p.tables e below (T432.setTop (mkF m 759 #[.val (.ref ar), .val (.int n1)] [(.int 3), (.ref b420), (.ref b420), (.ref b418), (.ref b418)])) _
    refine XS.aloadN X432.here hx rfl (hb hby own_d9_759) rfl rfl ?_
    show Steps p.tables e below (T432.setTop (mkF m 760 #[.val (.ref ar), .val (.int n1)] [(.ref ar), (.int 3), (.ref b420), (.ref b420), (.ref b418), (.ref b418)])) _
    refine XS.iconst X432.here hx rfl (hb hby own_d9_760) ?_
    show Steps p.tables e below (T432.setTop (mkF m 761 #[.val (.ref ar), .val (.int n1)] [(.int 3), (.ref ar), (.int 3), (.ref b420), (.ref b420), (.ref b418), (.ref b418)])) _
    refine X432.caload hx (j := (3 : Int32)) (v := (.int c3)) (by rw [e432]; exact Ar434.1) (State.isArrayOf_alike hZ.alike Ar434.2.1) Ar434.2.2 hin434 (H434.at hin434 rfl) (g := (mkF m 761 #[.val (.ref ar), .val (.int n1)] [(.int 3), (.ref ar), (.int 3), (.ref b420), (.ref b420), (.ref b418), (.ref b418)])) rfl rfl (hb hby own_d9_761) _ ?_
    show Steps p.tables e below (T432.setTop (mkF m 762 #[.val (.ref ar), .val (.int n1)] [(.int c3), (.int 3), (.ref b420), (.ref b420), (.ref b418), (.ref b418)])) _
    refine st436 _ ?_
    show Steps p.tables e below (T436.setTop (mkF m 763 #[.val (.ref ar), .val (.int n1)] [(.ref b420), (.ref b418), (.ref b418)])) _
    refine XS.dup X436.here hx rfl (hb hby own_d9_763) rfl rfl ?_
    show Steps p.tables e below (T436.setTop (mkF m 764 #[.val (.ref ar), .val (.int n1)] [(.ref b420), (.ref b420), (.ref b418), (.ref b418)])) _
    refine XS.iconst X436.here hx rfl (hb hby own_d9_764) ?_
    show Steps p.tables e below (T436.setTop (mkF m 765 #[.val (.ref ar), .val (.int n1)] [(.int 4), (.ref b420), (.ref b420), (.ref b418), (.ref b418)])) _
    refine XS.aloadN X436.here hx rfl (hb hby own_d9_765) rfl rfl ?_
    show Steps p.tables e below (T436.setTop (mkF m 766 #[.val (.ref ar), .val (.int n1)] [(.ref ar), (.int 4), (.ref b420), (.ref b420), (.ref b418), (.ref b418)])) _
    refine XS.iconst X436.here hx rfl (hb hby own_d9_766) ?_
    show Steps p.tables e below (T436.setTop (mkF m 767 #[.val (.ref ar), .val (.int n1)] [(.int 4), (.ref ar), (.int 4), (.ref b420), (.ref b420), (.ref b418), (.ref b418)])) _
    refine X436.caload hx (j := (4 : Int32)) (v := (.int c4)) (by rw [e436]; exact Ar438.1) (State.isArrayOf_alike hZ.alike Ar438.2.1) Ar438.2.2 hin438 (H438.at hin438 rfl) (g := (mkF m 767 #[.val (.ref ar), .val (.int n1)] [(.int 4), (.ref ar), (.int 4), (.ref b420), (.ref b420), (.ref b418), (.ref b418)])) rfl rfl (hb hby own_d9_767) _ ?_
    show Steps p.tables e below (T436.setTop (mkF m 768 #[.val (.ref ar), .val (.int n1)] [(.int c4), (.int 4), (.ref b420), (.ref b420), (.ref b418), (.ref b418)])) _
    refine st440 _ ?_
    show Steps p.tables e below (T440.setTop (mkF m 769 #[.val (.ref ar), .val (.int n1)] [(.ref b420), (.ref b418), (.ref b418)])) _
    refine XS.dup X440.here hx rfl (hb hby own_d9_769) rfl rfl ?_
    show Steps p.tables e below (T440.setTop (mkF m 770 #[.val (.ref ar), .val (.int n1)] [(.ref b420), (.ref b420), (.ref b418), (.ref b418)])) _
    refine XS.iconst X440.here hx rfl (hb hby own_d9_770) ?_
    show Steps p.tables e below (T440.setTop (mkF m 771 #[.val (.ref ar), .val (.int n1)] [(.int 5), (.ref b420), (.ref b420), (.ref b418), (.ref b418)])) _
    refine XS.aloadN X440.here hx rfl (hb hby own_d9_771) rfl rfl ?_
    show Steps p.tables e below (T440.setTop (mkF m 772 #[.val (.ref ar), .val (.int n1)] [(.ref ar), (.int 5), (.ref b420), (.ref b420), (.ref b418), (.ref b418)])) _
    refine XS.iconst X440.here hx rfl (hb hby own_d9_772) ?_
    show Steps p.tables e below (T440.setTop (mkF m 773 #[.val (.ref ar), .val (.int n1)] [(.int 5), (.ref ar), (.int 5), (.ref b420), (.ref b420), (.ref b418), (.ref b418)])) _
    refine X440.caload hx (j := (5 : Int32)) (v := (.int c5)) (by rw [e440]; exact Ar442.1) (State.isArrayOf_alike hZ.alike Ar442.2.1) Ar442.2.2 hin442 (H442.at hin442 rfl) (g := (mkF m 773 #[.val (.ref ar), .val (.int n1)] [(.int 5), (.ref ar), (.int 5), (.ref b420), (.ref b420), (.ref b418), (.ref b418)])) rfl rfl (hb hby own_d9_773) _ ?_
    show Steps p.tables e below (T440.setTop (mkF m 774 #[.val (.ref ar), .val (.int n1)] [(.int c5), (.int 5), (.ref b420), (.ref b420), (.ref b418), (.ref b418)])) _
    refine st444 _ ?_
    show Steps p.tables e below (T444.setTop (mkF m 775 #[.val (.ref ar), .val (.int n1)] [(.ref b420), (.ref b418), (.ref b418)])) _
    refine XS.dup X444.here hx rfl (hb hby own_d9_775) rfl rfl ?_
    show Steps p.tables e below (T444.setTop (mkF m 776 #[.val (.ref ar), .val (.int n1)] [(.ref b420), (.ref b420), (.ref b418), (.ref b418)])) _
    refine XS.bipush X444.here hx rfl (hb hby own_d9_776) ?_
    show Steps p.tables e below (T444.setTop (mkF m 778 #[.val (.ref ar), .val (.int n1)] [(.int 6), (.ref b420), (.ref b420), (.ref b418), (.ref b418)])) _
    refine XS.aloadN X444.here hx rfl (hb hby own_d9_778) rfl rfl ?_
    show Steps p.tables e below (T444.setTop (mkF m 779 #[.val (.ref ar), .val (.int n1)] [(.ref ar), (.int 6), (.ref b420), (.ref b420), (.ref b418), (.ref b418)])) _
    refine XS.bipush X444.here hx rfl (hb hby own_d9_779) ?_
    show Steps p.tables e below (T444.setTop (mkF m 781 #[.val (.ref ar), .val (.int n1)] [(.int 6), (.ref ar), (.int 6), (.ref b420), (.ref b420), (.ref b418), (.ref b418)])) _
    refine X444.caload hx (j := (6 : Int32)) (v := (.int c6)) (by rw [e444]; exact Ar446.1) (State.isArrayOf_alike hZ.alike Ar446.2.1) Ar446.2.2 hin446 (H446.at hin446 rfl) (g := (mkF m 781 #[.val (.ref ar), .val (.int n1)] [(.int 6), (.ref ar), (.int 6), (.ref b420), (.ref b420), (.ref b418), (.ref b418)])) rfl rfl (hb hby own_d9_781) _ ?_
    show Steps p.tables e below (T444.setTop (mkF m 782 #[.val (.ref ar), .val (.int n1)] [(.int c6), (.int 6), (.ref b420), (.ref b420), (.ref b418), (.ref b418)])) _
    refine st448 _ ?_
    show Steps p.tables e below (T448.setTop (mkF m 783 #[.val (.ref ar), .val (.int n1)] [(.ref b420), (.ref b418), (.ref b418)])) _
    refine XS.dup X448.here hx rfl (hb hby own_d9_783) rfl rfl ?_
    show Steps p.tables e below (T448.setTop (mkF m 784 #[.val (.ref ar), .val (.int n1)] [(.ref b420), (.ref b420), (.ref b418), (.ref b418)])) _
    refine XS.bipush X448.here hx rfl (hb hby own_d9_784) ?_
    show Steps p.tables e below (T448.setTop (mkF m 786 #[.val (.ref ar), .val (.int n1)] [(.int 7), (.ref b420), (.ref b420), (.ref b418), (.ref b418)])) _
    refine XS.aloadN X448.here hx rfl (hb hby own_d9_786) rfl rfl ?_
    show Steps p.tables e below (T448.setTop (mkF m 787 #[.val (.ref ar), .val (.int n1)] [(.ref ar), (.int 7), (.ref b420), (.ref b420), (.ref b418), (.ref b418)])) _
    refine XS.bipush X448.here hx rfl (hb hby own_d9_787) ?_
    show Steps p.tables e below (T448.setTop (mkF m 789 #[.val (.ref ar), .val (.int n1)] [(.int 7), (.ref ar), (.int 7), (.ref b420), (.ref b420), (.ref b418), (.ref b418)])) _
    refine X448.caload hx (j := (7 : Int32)) (v := (.int c7)) (by rw [e448]; exact Ar450.1) (State.isArrayOf_alike hZ.alike Ar450.2.1) Ar450.2.2 hin450 (H450.at hin450 rfl) (g := (mkF m 789 #[.val (.ref ar), .val (.int n1)] [(.int 7), (.ref ar), (.int 7), (.ref b420), (.ref b420), (.ref b418), (.ref b418)])) rfl rfl (hb hby own_d9_789) _ ?_
    show Steps p.tables e below (T448.setTop (mkF m 790 #[.val (.ref ar), .val (.int n1)] [(.int c7), (.int 7), (.ref b420), (.ref b420), (.ref b418), (.ref b418)])) _
    refine st452 _ ?_
    show Steps p.tables e below (T452.setTop (mkF m 791 #[.val (.ref ar), .val (.int n1)] [(.ref b420), (.ref b418), (.ref b418)])) _
    refine XS.dup X452.here hx rfl (hb hby own_d9_791) rfl rfl ?_
    show Steps p.tables e below (T452.setTop (mkF m 792 #[.val (.ref ar), .val (.int n1)] [(.ref b420), (.ref b420), (.ref b418), (.ref b418)])) _
    refine XS.bipush X452.here hx rfl (hb hby own_d9_792) ?_
    show Steps p.tables e below (T452.setTop (mkF m 794 #[.val (.ref ar), .val (.int n1)] [(.int 8), (.ref b420), (.ref b420), (.ref b418), (.ref b418)])) _
    refine XS.aloadN X452.here hx rfl (hb hby own_d9_794) rfl rfl ?_
    show Steps p.tables e below (T452.setTop (mkF m 795 #[.val (.ref ar), .val (.int n1)] [(.ref ar), (.int 8), (.ref b420), (.ref b420), (.ref b418), (.ref b418)])) _
    refine XS.bipush X452.here hx rfl (hb hby own_d9_795) ?_
    show Steps p.tables e below (T452.setTop (mkF m 797 #[.val (.ref ar), .val (.int n1)] [(.int 8), (.ref ar), (.int 8), (.ref b420), (.ref b420), (.ref b418), (.ref b418)])) _
    refine X452.caload hx (j := (8 : Int32)) (v := (.int c8)) (by rw [e452]; exact Ar454.1) (State.isArrayOf_alike hZ.alike Ar454.2.1) Ar454.2.2 hin454 (H454.at hin454 rfl) (g := (mkF m 797 #[.val (.ref ar), .val (.int n1)] [(.int 8), (.ref ar), (.int 8), (.ref b420), (.ref b420), (.ref b418), (.ref b418)])) rfl rfl (hb hby own_d9_797) _ ?_
    show Steps p.tables e below (T452.setTop (mkF m 798 #[.val (.ref ar), .val (.int n1)] [(.int c8), (.int 8), (.ref b420), (.ref b420), (.ref b418), (.ref b418)])) _
    refine st456 _ ?_
    show Steps p.tables e below (T456.setTop (mkF m 799 #[.val (.ref ar), .val (.int n1)] [(.ref b420), (.ref b418), (.ref b418)])) _
    refine XS.dup X456.here hx rfl (hb hby own_d9_799) rfl rfl ?_
    show Steps p.tables e below (T456.setTop (mkF m 800 #[.val (.ref ar), .val (.int n1)] [(.ref b420), (.ref b420), (.ref b418), (.ref b418)])) _
    refine XS.bipush X456.here hx rfl (hb hby own_d9_800) ?_
    show Steps p.tables e below (T456.setTop (mkF m 802 #[.val (.ref ar), .val (.int n1)] [(.int 9), (.ref b420), (.ref b420), (.ref b418), (.ref b418)])) _
    refine XS.aloadN X456.here hx rfl (hb hby own_d9_802) rfl rfl ?_
    show Steps p.tables e below (T456.setTop (mkF m 803 #[.val (.ref ar), .val (.int n1)] [(.ref ar), (.int 9), (.ref b420), (.ref b420), (.ref b418), (.ref b418)])) _
    refine XS.bipush X456.here hx rfl (hb hby own_d9_803) ?_
    show Steps p.tables e below (T456.setTop (mkF m 805 #[.val (.ref ar), .val (.int n1)] [(.int 9), (.ref ar), (.int 9), (.ref b420), (.ref b420), (.ref b418), (.ref b418)])) _
    refine X456.caload hx (j := (9 : Int32)) (v := (.int c9)) (by rw [e456]; exact Ar458.1) (State.isArrayOf_alike hZ.alike Ar458.2.1) Ar458.2.2 hin458 (H458.at hin458 rfl) (g := (mkF m 805 #[.val (.ref ar), .val (.int n1)] [(.int 9), (.ref ar), (.int 9), (.ref b420), (.ref b420), (.ref b418), (.ref b418)])) rfl rfl (hb hby own_d9_805) _ ?_
    show Steps p.tables e below (T456.setTop (mkF m 806 #[.val (.ref ar), .val (.int n1)] [(.int c9), (.int 9), (.ref b420), (.ref b420), (.ref b418), (.ref b418)])) _
    refine st460 _ ?_
    show Steps p.tables e below (T460.setTop (mkF m 807 #[.val (.ref ar), .val (.int n1)] [(.ref b420), (.ref b418), (.ref b418)])) _
    refine XS.dup X460.here hx rfl (hb hby own_d9_807) rfl rfl ?_
    show Steps p.tables e below (T460.setTop (mkF m 808 #[.val (.ref ar), .val (.int n1)] [(.ref b420), (.ref b420), (.ref b418), (.ref b418)])) _
    refine XS.bipush X460.here hx rfl (hb hby own_d9_808) ?_
    show Steps p.tables e below (T460.setTop (mkF m 810 #[.val (.ref ar), .val (.int n1)] [(.int 10), (.ref b420), (.ref b420), (.ref b418), (.ref b418)])) _
    refine XS.aloadN X460.here hx rfl (hb hby own_d9_810) rfl rfl ?_
    show Steps p.tables e below (T460.setTop (mkF m 811 #[.val (.ref ar), .val (.int n1)] [(.ref ar), (.int 10), (.ref b420), (.ref b420), (.ref b418), (.ref b418)])) _
    refine XS.bipush X460.here hx rfl (hb hby own_d9_811) ?_
    show Steps p.tables e below (T460.setTop (mkF m 813 #[.val (.ref ar), .val (.int n1)] [(.int 10), (.ref ar), (.int 10), (.ref b420), (.ref b420), (.ref b418), (.ref b418)])) _
    refine X460.caload hx (j := (10 : Int32)) (v := (.int c10)) (by rw [e460]; exact Ar462.1) (State.isArrayOf_alike hZ.alike Ar462.2.1) Ar462.2.2 hin462 (H462.at hin462 rfl) (g := (mkF m 813 #[.val (.ref ar), .val (.int n1)] [(.int 10), (.ref ar), (.int 10), (.ref b420), (.ref b420), (.ref b418), (.ref b418)])) rfl rfl (hb hby own_d9_813) _ ?_
    show Steps p.tables e below (T460.setTop (mkF m 814 #[.val (.ref ar), .val (.int n1)] [(.int c10), (.int 10), (.ref b420), (.ref b420), (.ref b418), (.ref b418)])) _
    refine st464 _ ?_
    show Steps p.tables e below (T464.setTop (mkF m 815 #[.val (.ref ar), .val (.int n1)] [(.ref b420), (.ref b418), (.ref b418)])) _
    refine XS.dup X464.here hx rfl (hb hby own_d9_815) rfl rfl ?_
    show Steps p.tables e below (T464.setTop (mkF m 816 #[.val (.ref ar), .val (.int n1)] [(.ref b420), (.ref b420), (.ref b418), (.ref b418)])) _
    refine XS.bipush X464.here hx rfl (hb hby own_d9_816) ?_
    show Steps p.tables e below (T464.setTop (mkF m 818 #[.val (.ref ar), .val (.int n1)] [(.int 11), (.ref b420), (.ref b420), (.ref b418), (.ref b418)])) _
    refine XS.aloadN X464.here hx rfl (hb hby own_d9_818) rfl rfl ?_
    show Steps p.tables e below (T464.setTop (mkF m 819 #[.val (.ref ar), .val (.int n1)] [(.ref ar), (.int 11), (.ref b420), (.ref b420), (.ref b418), (.ref b418)])) _
    refine XS.bipush X464.here hx rfl (hb hby own_d9_819) ?_
    show Steps p.tables e below (T464.setTop (mkF m 821 #[.val (.ref ar), .val (.int n1)] [(.int 11), (.ref ar), (.int 11), (.ref b420), (.ref b420), (.ref b418), (.ref b418)])) _
    refine X464.caload hx (j := (11 : Int32)) (v := (.int c11)) (by rw [e464]; exact Ar466.1) (State.isArrayOf_alike hZ.alike Ar466.2.1) Ar466.2.2 hin466 (H466.at hin466 rfl) (g := (mkF m 821 #[.val (.ref ar), .val (.int n1)] [(.int 11), (.ref ar), (.int 11), (.ref b420), (.ref b420), (.ref b418), (.ref b418)])) rfl rfl (hb hby own_d9_821) _ ?_
    show Steps p.tables e below (T464.setTop (mkF m 822 #[.val (.ref ar), .val (.int n1)] [(.int c11), (.int 11), (.ref b420), (.ref b420), (.ref b418), (.ref b418)])) _
    refine st468 _ ?_
    show Steps p.tables e below (T468.setTop (mkF m 823 #[.val (.ref ar), .val (.int n1)] [(.ref b420), (.ref b418), (.ref b418)])) _
    refine XS.dup X468.here hx rfl (hb hby own_d9_823) rfl rfl ?_
    show Steps p.tables e below (T468.setTop (mkF m 824 #[.val (.ref ar), .val (.int n1)] [(.ref b420), (.ref b420), (.ref b418), (.ref b418)])) _
    refine XS.bipush X468.here hx rfl (hb hby own_d9_824) ?_
    show Steps p.tables e below (T468.setTop (mkF m 826 #[.val (.ref ar), .val (.int n1)] [(.int 12), (.ref b420), (.ref b420), (.ref b418), (.ref b418)])) _
    refine XS.aloadN X468.here hx rfl (hb hby own_d9_826) rfl rfl ?_
    show Steps p.tables e below (T468.setTop (mkF m 827 #[.val (.ref ar), .val (.int n1)] [(.ref ar), (.int 12), (.ref b420), (.ref b420), (.ref b418), (.ref b418)])) _
    refine XS.bipush X468.here hx rfl (hb hby own_d9_827) ?_
    show Steps p.tables e below (T468.setTop (mkF m 829 #[.val (.ref ar), .val (.int n1)] [(.int 12), (.ref ar), (.int 12), (.ref b420), (.ref b420), (.ref b418), (.ref b418)])) _
    refine X468.caload hx (j := (12 : Int32)) (v := (.int c12)) (by rw [e468]; exact Ar470.1) (State.isArrayOf_alike hZ.alike Ar470.2.1) Ar470.2.2 hin470 (H470.at hin470 rfl) (g := (mkF m 829 #[.val (.ref ar), .val (.int n1)] [(.int 12), (.ref ar), (.int 12), (.ref b420), (.ref b420), (.ref b418), (.ref b418)])) rfl rfl (hb hby own_d9_829) _ ?_
    show Steps p.tables e below (T468.setTop (mkF m 830 #[.val (.ref ar), .val (.int n1)] [(.int c12), (.int 12), (.ref b420), (.ref b420), (.ref b418), (.ref b418)])) _
    refine st472 _ ?_
    show Steps p.tables e below (T472.setTop (mkF m 831 #[.val (.ref ar), .val (.int n1)] [(.ref b420), (.ref b418), (.ref b418)])) _
    refine st474.trans ?_
    show Steps p.tables e below (T474.setTop (mkF m 834 #[.val (.ref ar), .val (.int n1)] [(.ref b418)])) _
    exact retOut X474 hx (t := (.object "java/lang/String")) Bd.returns rfl (Or.inr (Or.inr (Or.inr (Or.inr ⟨rfl, rfl, rfl⟩)))) (hb hby own_d9_834) hr
  have hnk : nn = 13 := by
    have q0 : nn ≠ 0 := fun q_ => hc2 (by rw [hnn, q_]; rfl)
    have q1 : nn ≠ 1 := fun q_ => hc11 (by rw [hnn, q_]; rfl)
    have q2 : nn ≠ 2 := fun q_ => hc23 (by rw [hnn, q_]; rfl)
    have q3 : nn ≠ 3 := fun q_ => hc39 (by rw [hnn, q_]; rfl)
    have q4 : nn ≠ 4 := fun q_ => hc59 (by rw [hnn, q_]; rfl)
    have q5 : nn ≠ 5 := fun q_ => hc83 (by rw [hnn, q_]; rfl)
    have q6 : nn ≠ 6 := fun q_ => hc111 (by rw [hnn, q_]; rfl)
    have q7 : nn ≠ 7 := fun q_ => hc143 (by rw [hnn, q_]; rfl)
    have q8 : nn ≠ 8 := fun q_ => hc179 (by rw [hnn, q_]; rfl)
    have q9 : nn ≠ 9 := fun q_ => hc219 (by rw [hnn, q_]; rfl)
    have q10 : nn ≠ 10 := fun q_ => hc263 (by rw [hnn, q_]; rfl)
    have q11 : nn ≠ 11 := fun q_ => hc311 (by rw [hnn, q_]; rfl)
    have q12 : nn ≠ 12 := fun q_ => hc363 (by rw [hnn, q_]; rfl)
    omega
  · show own_Q_own_prefix Z ar n1 Ts cz ka AA nn h0 n0 _ T474.heap _
    subst hnk
    exact ⟨b418, b474, kb474, rfl, N474, KP, Ee474, Fc474, Fv474, by rw [eA]; exact VB474⟩
theorem own_pd5 : parseMethodDescriptor "()I" = some ⟨[], some .int⟩ := by decide +kernel
theorem own_pd6 : parseMethodDescriptor "(Ljava/lang/String;II)C" = some ⟨[(.object "java/lang/String"), .int, .int], some .char⟩ := by decide +kernel
theorem own_pd7 : parseMethodDescriptor "([CI)Ljava/lang/String;" = some ⟨[(.array .char), .int], some (.object "java/lang/String")⟩ := by decide +kernel
theorem own_pd8 : parseMethodDescriptor "(Ljava/lang/String;)Lcom/example/millrace/millrace/definition/NodeKind;" = some ⟨[(.object "java/lang/String")], some (.object "com/example/millrace/millrace/definition/NodeKind")⟩ := by decide +kernel
theorem own_ef0 (m : MethodId) (x0 : Int32) (x1 : Int32) (x2 : Int32) (x3 : Int32) (x4 : Int32) : entryFrame m #[(.int x0), (.int x1), (.int x2), (.int x3), (.int x4)] maxLocals = mkF m 0 #[.val (.int x0), .val (.int x1), .val (.int x2), .val (.int x3), .val (.int x4), .unset, .unset, .unset, .unset, .unset, .unset, .unset, .unset, .unset, .unset, .unset] [] := by first | (simp [entryFrame, mkF, argsToLocals, Value.category, maxLocals]; done) | rfl
def own_Q_own_law (Z : State) (x0 : Int32) (x1 : Int32) (x2 : Int32) (x3 : Int32) (x4 : Int32) (cz : Int32) (fm : Value) (va : Addr) (kv : ClassId) (w0 : Addr) (w1 : Addr) (w2 : Addr) (w3 : Addr) (sg0 : Addr) (bv0 : Addr) (kb0 : ClassId) (sg1 : Addr) (bv1 : Addr) (kb1 : ClassId) (sg2 : Addr) (bv2 : Addr) (kb2 : ClassId) (sg3 : Addr) (bv3 : Addr) (kb3 : ClassId) (h0 : Heap) (n0 : Nat) (v : Option Value) (h : Heap) (L : List Loc) : Prop := v = some (.int 1) ∧ Fr n0 L
set_option maxRecDepth 65536 in
set_option maxHeartbeats 40000000 in
theorem own_law (l : Launch) (Z : State) (a0 : Array Value) (hw : ∀ d ∈ tables_1, d.before a0 Z = true) (ws : List Jvm.Cond) (x0 : Int32) (x1 : Int32) (x2 : Int32) (x3 : Int32) (x4 : Int32) (cz : Int32) (fm : Value) (va : Addr) (kv : ClassId) (w0 : Addr) (w1 : Addr) (w2 : Addr) (w3 : Addr) (sg0 : Addr) (bv0 : Addr) (kb0 : ClassId) (sg1 : Addr) (bv1 : Addr) (kb1 : ClassId) (sg2 : Addr) (bv2 : Addr) (kb2 : ClassId) (sg3 : Addr) (bv3 : Addr) (kb3 : ClassId) (h0 : Heap) (n0 : Nat) (Z0 : n0 ≤ h0.size) (O : Old Z n0 h0) (HC0 : Jvm.Lit.constHeld Z "com/example/millrace/millrace/definition/NodeKindOfElementPinLaw" 7) (HC1 : Jvm.Lit.constHeld Z "com/example/millrace/millrace/definition/NodeKindOfElementPinLaw" 15) (HC2 : Jvm.Lit.constHeld Z "com/example/millrace/millrace/definition/NodeKindOfElementPinLaw" 20) (HC3 : Jvm.Lit.constHeld Z "com/example/millrace/millrace/definition/NodeKindOfElementPinLaw" 25) (HC : Jvm.Lit.constHeld Z "java/lang/String" 7) (hcw : Jvm.Lit.compactW.before a0 Z = true) (S0 : Sta Z Z.heap "java/lang/String" "COMPACT_STRINGS" "Z" (.int cz)) (hcz : ¬ cz = 0) (Sf : Sta Z Z.heap "jdk/internal/util/Preconditions" "SIOOBE_FORMATTER" "Ljava/util/function/BiFunction;" fm) (rfm : fm.isRef = true) (S_V : Sta Z Z.heap "com/example/millrace/millrace/definition/NodeKind" "$VALUES" "[Lcom/example/millrace/millrace/definition/NodeKind;" (.ref va)) (VV : Arv Z Z.heap va kv (.object "com/example/millrace/millrace/definition/NodeKind") (4 : Int32) [(.ref w0), (.ref w1), (.ref w2), (.ref w3)] .null) (EV : Exa Z Z.heap va "[Lcom/example/millrace/millrace/definition/NodeKind;") (Fe0 : Fld Z Z.heap w0 "com/example/millrace/millrace/definition/NodeKind" "element" "Ljava/lang/String;" (.ref sg0)) (Es0 : Exa Z Z.heap sg0 "java/lang/String") (Fc0 : Fld Z Z.heap sg0 "java/lang/String" "coder" "B" (.int 0)) (Fv0 : Fld Z Z.heap sg0 "java/lang/String" "value" "[B" (.ref bv0)) (Vb0 : Arv Z Z.heap bv0 kb0 .byte (Int32.ofNat (own_S 0).length) (List.map (fun c => Value.int (StrChars.lo8 c)) (own_S 0)) (.int 0)) (Fe1 : Fld Z Z.heap w1 "com/example/millrace/millrace/definition/NodeKind" "element" "Ljava/lang/String;" (.ref sg1)) (Es1 : Exa Z Z.heap sg1 "java/lang/String") (Fc1 : Fld Z Z.heap sg1 "java/lang/String" "coder" "B" (.int 0)) (Fv1 : Fld Z Z.heap sg1 "java/lang/String" "value" "[B" (.ref bv1)) (Vb1 : Arv Z Z.heap bv1 kb1 .byte (Int32.ofNat (own_S 1).length) (List.map (fun c => Value.int (StrChars.lo8 c)) (own_S 1)) (.int 0)) (Fe2 : Fld Z Z.heap w2 "com/example/millrace/millrace/definition/NodeKind" "element" "Ljava/lang/String;" (.ref sg2)) (Es2 : Exa Z Z.heap sg2 "java/lang/String") (Fc2 : Fld Z Z.heap sg2 "java/lang/String" "coder" "B" (.int 0)) (Fv2 : Fld Z Z.heap sg2 "java/lang/String" "value" "[B" (.ref bv2)) (Vb2 : Arv Z Z.heap bv2 kb2 .byte (Int32.ofNat (own_S 2).length) (List.map (fun c => Value.int (StrChars.lo8 c)) (own_S 2)) (.int 0)) (Fe3 : Fld Z Z.heap w3 "com/example/millrace/millrace/definition/NodeKind" "element" "Ljava/lang/String;" (.ref sg3)) (Es3 : Exa Z Z.heap sg3 "java/lang/String") (Fc3 : Fld Z Z.heap sg3 "java/lang/String" "coder" "B" (.int 0)) (Fv3 : Fld Z Z.heap sg3 "java/lang/String" "value" "[B" (.ref bv3)) (Vb3 : Arv Z Z.heap bv3 kb3 .byte (Int32.ofNat (own_S 3).length) (List.map (fun c => Value.int (StrChars.lo8 c)) (own_S 3)) (.int 0)) (S_0 : Sta Z Z.heap "com/example/millrace/millrace/definition/NodeKind" "START" "Lcom/example/millrace/millrace/definition/NodeKind;" (.ref w0)) (S_1 : Sta Z Z.heap "com/example/millrace/millrace/definition/NodeKind" "ACTIVITY" "Lcom/example/millrace/millrace/definition/NodeKind;" (.ref w1)) (S_2 : Sta Z Z.heap "com/example/millrace/millrace/definition/NodeKind" "SYNCHRONIZER" "Lcom/example/millrace/millrace/definition/NodeKind;" (.ref w2)) (S_3 : Sta Z Z.heap "com/example/millrace/millrace/definition/NodeKind" "END" "Lcom/example/millrace/millrace/definition/NodeKind;" (.ref w3)) :
    MetFree l x (head1 (Jvm.Cond.code x code maxLocals ret :: ws) room_1) (fun as_ U => as_ = #[(.int x0), (.int x1), (.int x2), (.int x3), (.int x4)] ∧ Z.Warmed39 U.vm ∧ U.heap = h0 ∧ U.vm.interned = Z.vm.interned) (fun _ _ _ _ _ => True) (fun _ U o U' => ∃ v L, o = .returned v ∧ own_Q_own_law Z x0 x1 x2 x3 x4 cz fm va kv w0 w1 w2 w3 sg0 bv0 kb0 sg1 bv1 kb1 sg2 bv2 kb2 sg3 bv3 kb3 h0 n0 v U'.heap L ∧ ReturnedEndW U o U' L room_1.cells room_1.slots) := by
  refine MetFree.of_bodySF (plainFor_of_name own_pn0) hisR ?_
  intro p e s m args below meth c s₁ Bd hml0 hP hK
  obtain ⟨rfl, hZ, hh, hI⟩ := hP
  have hx := Bd.exec
  have hby := Bd.bytes
  have hml : c.maxLocals = 16 := hml0
  have hown : s.vm.findClass "com/example/millrace/millrace/definition/NodeKindOfElementPinLaw" = some m.cls := findClass_of_methodNamed Bd.named
  have hnm := (name_of_methodNamed Bd.named Bd.method).1
  have X0 : Stand p l e room_1 (s.setVm s.vm) m #[(.int x0), (.int x1), (.int x2), (.int x3), (.int x4)] below meth c s₁ [] 0 0 := Stand.of_body Bd
  have e0 : s₁.heap = h0 := by rw [← hh, Bd.state]; rfl
  have N0 := Fr.nil n0
  have pre0 : ∀ t, Steps p.tables e below (s₁.setTop (mkF m 0 #[.val (.int x0), .val (.int x1), .val (.int x2), .val (.int x3), .val (.int x4), .unset, .unset, .unset, .unset, .unset, .unset, .unset, .unset, .unset, .unset, .unset] [])) t → Steps p.tables e below (s₁.setTop (entryFrame m #[(.int x0), (.int x1), (.int x2), (.int x3), (.int x4)] maxLocals)) t := fun t k => castTop (own_ef0 m x0 x1 x2 x3 x4) k
  have hS : s.Since s.vm 0 := (State.WarmedH.refl s).since 0
  have hk : 0 ≤ h0.size := Nat.zero_le _
  have hZ : Z.Warmed39 (s.setVm s.vm).vm := hZ
  have hown : (s.setVm s.vm).vm.findClass "com/example/millrace/millrace/definition/NodeKindOfElementPinLaw" = some m.cls := hown
  have hI : (s.setVm s.vm).vm.interned = Z.vm.interned := hI
  have O0 := O
  have hI := own_IB0 hI
  obtain ⟨T1, h1, LL1, vm1, kq1, sg, bv, kb, ii, wk, X1, e1, N1, Z1, hS, hk, hZ, hown, hI, O, Es, Fc, Fv, Vb, hii, hwk, pre1⟩ : ∃ (T1 : State) (h1 : Heap) (LL1 : List Loc) (vm1 : Vm) (kq1 : Nat) (sg : Addr) (bv : Addr) (kb : ClassId) (ii : Nat) (wk : Addr), Stand p l e room_1 (s.setVm vm1) m #[(.int x0), (.int x1), (.int x2), (.int x3), (.int x4)] below meth c T1 LL1 2 52 ∧ T1.heap = h1 ∧ Fr n0 LL1 ∧ n0 ≤ h1.size ∧ (s.Since vm1 kq1) ∧ (kq1 ≤ h1.size) ∧ (Z.Warmed39 (s.setVm vm1).vm) ∧ ((s.setVm vm1).vm.findClass "com/example/millrace/millrace/definition/NodeKindOfElementPinLaw" = some m.cls) ∧ (IB Z (s.setVm vm1).vm [own_T ii]) ∧ (Old Z n0 h1) ∧ (Exa Z h1 sg "java/lang/String") ∧ (Fld Z h1 sg "java/lang/String" "coder" "B" (.int 0)) ∧ (Fld Z h1 sg "java/lang/String" "value" "[B" (.ref bv)) ∧ (Arv Z h1 bv kb .byte (Int32.ofNat (own_S ii).length) (List.map (fun c => Value.int (StrChars.lo8 c)) (own_S ii)) (.int 0)) ∧ (ii < 4) ∧ (wk = own_w w0 w1 w2 w3 ii) ∧ (∀ t, Steps p.tables e below (T1.setTop (mkF m 67 #[.val (.int x0), .val (.int x1), .val (.int x2), .val (.int x3), .val (.int x4), .val (.int (x0 &&& (3 : Int32))), .val (.ref sg), .val (.ref wk), .unset, .unset, .unset, .unset, .unset, .unset, .unset, .unset] [])) t → Steps p.tables e below (s₁.setTop (entryFrame m #[(.int x0), (.int x1), (.int x2), (.int x3), (.int x4)] maxLocals)) t) := by
    have pre2 : ∀ t, Steps p.tables e below (s₁.setTop (mkF m 7 #[.val (.int x0), .val (.int x1), .val (.int x2), .val (.int x3), .val (.int x4), .val (.int (x0 &&& (3 : Int32))), .unset, .unset, .unset, .unset, .unset, .unset, .unset, .unset, .unset, .unset] [(.int (x0 &&& (3 : Int32)))])) t → Steps p.tables e below (s₁.setTop (entryFrame m #[(.int x0), (.int x1), (.int x2), (.int x3), (.int x4)] maxLocals)) t := fun t k => pre0 t (by
      show Steps p.tables e below (s₁.setTop (mkF m 0 #[.val (.int x0), .val (.int x1), .val (.int x2), .val (.int x3), .val (.int x4), .unset, .unset, .unset, .unset, .unset, .unset, .unset, .unset, .unset, .unset, .unset] [])) _
      refine XS.iloadN X0.here hx rfl (hb hby at_0) rfl ?_
      show Steps p.tables e below (s₁.setTop (mkF m 1 #[.val (.int x0), .val (.int x1), .val (.int x2), .val (.int x3), .val (.int x4), .unset, .unset, .unset, .unset, .unset, .unset, .unset, .unset, .unset, .unset, .unset] [(.int x0)])) _
      refine XS.iconst X0.here hx rfl (hb hby at_1) ?_
      show Steps p.tables e below (s₁.setTop (mkF m 2 #[.val (.int x0), .val (.int x1), .val (.int x2), .val (.int x3), .val (.int x4), .unset, .unset, .unset, .unset, .unset, .unset, .unset, .unset, .unset, .unset, .unset] [(.int 3), (.int x0)])) _
      refine XS.iand X0.here hx rfl (hb hby at_2) rfl ?_
      show Steps p.tables e below (s₁.setTop (mkF m 3 #[.val (.int x0), .val (.int x1), .val (.int x2), .val (.int x3), .val (.int x4), .unset, .unset, .unset, .unset, .unset, .unset, .unset, .unset, .unset, .unset, .unset] [(.int (x0 &&& (3 : Int32)))])) _
      refine XS.istore X0.here hx rfl (hb hby at_3) rfl (l' := #[.val (.int x0), .val (.int x1), .val (.int x2), .val (.int x3), .val (.int x4), .val (.int (x0 &&& (3 : Int32))), .unset, .unset, .unset, .unset, .unset, .unset, .unset, .unset, .unset, .unset]) rfl ?_
      show Steps p.tables e below (s₁.setTop (mkF m 5 #[.val (.int x0), .val (.int x1), .val (.int x2), .val (.int x3), .val (.int x4), .val (.int (x0 &&& (3 : Int32))), .unset, .unset, .unset, .unset, .unset, .unset, .unset, .unset, .unset, .unset] [])) _
      refine XS.iload X0.here hx rfl (hb hby at_5) rfl ?_
      show Steps p.tables e below (s₁.setTop (mkF m 7 #[.val (.int x0), .val (.int x1), .val (.int x2), .val (.int x3), .val (.int x4), .val (.int (x0 &&& (3 : Int32))), .unset, .unset, .unset, .unset, .unset, .unset, .unset, .unset, .unset, .unset] [(.int (x0 &&& (3 : Int32)))])) _
      exact k)
    by_cases hc3 : (x0 &&& (3 : Int32)) = (0 : Int32)
    · skip
      as_aux_lemma =>
        have pre5 : ∀ t, Steps p.tables e below (s₁.setTop (mkF m 10 #[.val (.int x0), .val (.int x1), .val (.int x2), .val (.int x3), .val (.int x4), .val (.int (x0 &&& (3 : Int32))), .unset, .unset, .unset, .unset, .unset, .unset, .unset, .unset, .unset, .unset] [])) t → Steps p.tables e below (s₁.setTop (entryFrame m #[(.int x0), (.int x1), (.int x2), (.int x3), (.int x4)] maxLocals)) t := fun t k => pre2 t (by
          refine XS.ifNo X0.here hx rfl (hb hby at_7) rfl ((if0 _ _).trans (teq hc3).2) ?_
          show Steps p.tables e below (s₁.setTop (mkF m 10 #[.val (.int x0), .val (.int x1), .val (.int x2), .val (.int x3), .val (.int x4), .val (.int (x0 &&& (3 : Int32))), .unset, .unset, .unset, .unset, .unset, .unset, .unset, .unset, .unset, .unset] [])) _
          exact k)
        obtain ⟨a4, T4, h4, k4, b4, kb4, X4, e4, E4, hS, hk, hZ, hown, Ee4, Fc4, Fv4, Vb4, lta, ltb, hI, LT, wh, st4⟩ := ldcSVd X0 hx hZ hown (hw _ (own_m (i := 0) rfl)) (own_wS hw) e0 hS hk (Fr.nil _) (fun b cl q => by rw [hh]; exact O0.2.2 b cl q) hI (by simp) HC0 hcw (vs := (List.map (fun c => Value.int (StrChars.lo8 c)) (own_S 0))) (z := Int32.ofNat (own_S 0).length) ⟨by decide, rfl⟩ (by decide) rfl (g := (mkF m 10 #[.val (.int x0), .val (.int x1), .val (.int x2), .val (.int x3), .val (.int x4), .val (.int (x0 &&& (3 : Int32))), .unset, .unset, .unset, .unset, .unset, .unset, .unset, .unset, .unset, .unset] [])) rfl (hb hby at_10) (n := 20) (by decide) (by decide) (by decide) (by decide)
        have O := O.ext E4
        have Z6 : n0 ≤ h4.size := Nat.le_trans Z0 E4.1
        obtain ⟨T7, X7, e7, st7⟩ := getS2 X4 hx hZ hown (host := "") (Or.inl (hw _ (own_m (i := 8) rfl))) Via.refl e4 (S_0.ext O.2) (g := (mkF m 14 #[.val (.int x0), .val (.int x1), .val (.int x2), .val (.int x3), .val (.int x4), .val (.int (x0 &&& (3 : Int32))), .val (.ref a4), .unset, .unset, .unset, .unset, .unset, .unset, .unset, .unset, .unset] [])) rfl (hb hby at_14)
        have pre8 : ∀ t, Steps p.tables e below (T7.setTop (mkF m 67 #[.val (.int x0), .val (.int x1), .val (.int x2), .val (.int x3), .val (.int x4), .val (.int (x0 &&& (3 : Int32))), .val (.ref a4), .val (.ref w0), .unset, .unset, .unset, .unset, .unset, .unset, .unset, .unset] [])) t → Steps p.tables e below (s₁.setTop (entryFrame m #[(.int x0), (.int x1), (.int x2), (.int x3), (.int x4)] maxLocals)) t := fun t k => pre5 t (by
          refine st4 _ ?_
          show Steps p.tables e below (T4.setTop (mkF m 12 #[.val (.int x0), .val (.int x1), .val (.int x2), .val (.int x3), .val (.int x4), .val (.int (x0 &&& (3 : Int32))), .unset, .unset, .unset, .unset, .unset, .unset, .unset, .unset, .unset, .unset] [(.ref a4)])) _
          refine XS.astore X4.here hx rfl (hb hby at_12) rfl rfl (l' := #[.val (.int x0), .val (.int x1), .val (.int x2), .val (.int x3), .val (.int x4), .val (.int (x0 &&& (3 : Int32))), .val (.ref a4), .unset, .unset, .unset, .unset, .unset, .unset, .unset, .unset, .unset]) rfl ?_
          show Steps p.tables e below (T4.setTop (mkF m 14 #[.val (.int x0), .val (.int x1), .val (.int x2), .val (.int x3), .val (.int x4), .val (.int (x0 &&& (3 : Int32))), .val (.ref a4), .unset, .unset, .unset, .unset, .unset, .unset, .unset, .unset, .unset] [])) _
          refine st7 _ ?_
          show Steps p.tables e below (T7.setTop (mkF m 17 #[.val (.int x0), .val (.int x1), .val (.int x2), .val (.int x3), .val (.int x4), .val (.int (x0 &&& (3 : Int32))), .val (.ref a4), .unset, .unset, .unset, .unset, .unset, .unset, .unset, .unset, .unset] [(.ref w0)])) _
          refine XS.astore X7.here hx rfl (hb hby at_17) rfl rfl (l' := #[.val (.int x0), .val (.int x1), .val (.int x2), .val (.int x3), .val (.int x4), .val (.int (x0 &&& (3 : Int32))), .val (.ref a4), .val (.ref w0), .unset, .unset, .unset, .unset, .unset, .unset, .unset, .unset]) rfl ?_
          show Steps p.tables e below (T7.setTop (mkF m 19 #[.val (.int x0), .val (.int x1), .val (.int x2), .val (.int x3), .val (.int x4), .val (.int (x0 &&& (3 : Int32))), .val (.ref a4), .val (.ref w0), .unset, .unset, .unset, .unset, .unset, .unset, .unset, .unset] [])) _
          refine XS.goto X7.here hx rfl (pc0 := 19) (pc' := 67) rfl (hb hby at_19) (by decide) (by decide) ?_
          exact k)
        as_aux_lemma =>
          exact ⟨T7, h4, _, _, _, a4, b4, kb4, 0, w0, X7.more (by decide) (by decide), e7, N0, Z6, hS, hk, hZ, hown, hI, O, Ee4, Fc4, Fv4, Vb4, (by decide), rfl, fun t k => pre8 t k⟩
    · skip
      as_aux_lemma =>
        have pre9 : ∀ t, Steps p.tables e below (s₁.setTop (mkF m 25 #[.val (.int x0), .val (.int x1), .val (.int x2), .val (.int x3), .val (.int x4), .val (.int (x0 &&& (3 : Int32))), .unset, .unset, .unset, .unset, .unset, .unset, .unset, .unset, .unset, .unset] [(.int 1), (.int (x0 &&& (3 : Int32)))])) t → Steps p.tables e below (s₁.setTop (entryFrame m #[(.int x0), (.int x1), (.int x2), (.int x3), (.int x4)] maxLocals)) t := fun t k => pre2 t (by
          refine XS.ifYes X0.here hx rfl (pc0 := 7) (pc' := 22) rfl (hb hby at_7) rfl ((if0 _ _).trans (feq hc3).2) (by decide) (by decide) ?_
          show Steps p.tables e below (s₁.setTop (mkF m 22 #[.val (.int x0), .val (.int x1), .val (.int x2), .val (.int x3), .val (.int x4), .val (.int (x0 &&& (3 : Int32))), .unset, .unset, .unset, .unset, .unset, .unset, .unset, .unset, .unset, .unset] [])) _
          refine XS.iload X0.here hx rfl (hb hby at_22) rfl ?_
          show Steps p.tables e below (s₁.setTop (mkF m 24 #[.val (.int x0), .val (.int x1), .val (.int x2), .val (.int x3), .val (.int x4), .val (.int (x0 &&& (3 : Int32))), .unset, .unset, .unset, .unset, .unset, .unset, .unset, .unset, .unset, .unset] [(.int (x0 &&& (3 : Int32)))])) _
          refine XS.iconst X0.here hx rfl (hb hby at_24) ?_
          show Steps p.tables e below (s₁.setTop (mkF m 25 #[.val (.int x0), .val (.int x1), .val (.int x2), .val (.int x3), .val (.int x4), .val (.int (x0 &&& (3 : Int32))), .unset, .unset, .unset, .unset, .unset, .unset, .unset, .unset, .unset, .unset] [(.int 1), (.int (x0 &&& (3 : Int32)))])) _
          exact k)
        by_cases hc10 : (x0 &&& (3 : Int32)) = (1 : Int32)
        · skip
          as_aux_lemma =>
            have pre12 : ∀ t, Steps p.tables e below (s₁.setTop (mkF m 28 #[.val (.int x0), .val (.int x1), .val (.int x2), .val (.int x3), .val (.int x4), .val (.int (x0 &&& (3 : Int32))), .unset, .unset, .unset, .unset, .unset, .unset, .unset, .unset, .unset, .unset] [])) t → Steps p.tables e below (s₁.setTop (entryFrame m #[(.int x0), (.int x1), (.int x2), (.int x3), (.int x4)] maxLocals)) t := fun t k => pre9 t (by
              refine XS.icmpNo X0.here hx rfl (hb hby at_25) rfl (teq hc10).2 ?_
              show Steps p.tables e below (s₁.setTop (mkF m 28 #[.val (.int x0), .val (.int x1), .val (.int x2), .val (.int x3), .val (.int x4), .val (.int (x0 &&& (3 : Int32))), .unset, .unset, .unset, .unset, .unset, .unset, .unset, .unset, .unset, .unset] [])) _
              exact k)
            obtain ⟨a11, T11, h11, k11, b11, kb11, X11, e11, E11, hS, hk, hZ, hown, Ee11, Fc11, Fv11, Vb11, lta, ltb, hI, LT, wh, st11⟩ := ldcSVd X0 hx hZ hown (hw _ (own_m (i := 113) rfl)) (own_wS hw) e0 hS hk (Fr.nil _) (fun b cl q => by rw [hh]; exact O0.2.2 b cl q) hI (by simp) HC1 hcw (vs := (List.map (fun c => Value.int (StrChars.lo8 c)) (own_S 1))) (z := Int32.ofNat (own_S 1).length) ⟨by decide, rfl⟩ (by decide) rfl (g := (mkF m 28 #[.val (.int x0), .val (.int x1), .val (.int x2), .val (.int x3), .val (.int x4), .val (.int (x0 &&& (3 : Int32))), .unset, .unset, .unset, .unset, .unset, .unset, .unset, .unset, .unset, .unset] [])) rfl (hb hby at_28) (n := 32) (by decide) (by decide) (by decide) (by decide)
            have O := O.ext E11
            have Z13 : n0 ≤ h11.size := Nat.le_trans Z0 E11.1
            obtain ⟨T14, X14, e14, st14⟩ := getS2 X11 hx hZ hown (host := "") (Or.inl (hw _ (own_m (i := 114) rfl))) Via.refl e11 (S_1.ext O.2) (g := (mkF m 32 #[.val (.int x0), .val (.int x1), .val (.int x2), .val (.int x3), .val (.int x4), .val (.int (x0 &&& (3 : Int32))), .val (.ref a11), .unset, .unset, .unset, .unset, .unset, .unset, .unset, .unset, .unset] [])) rfl (hb hby at_32)
            have pre15 : ∀ t, Steps p.tables e below (T14.setTop (mkF m 67 #[.val (.int x0), .val (.int x1), .val (.int x2), .val (.int x3), .val (.int x4), .val (.int (x0 &&& (3 : Int32))), .val (.ref a11), .val (.ref w1), .unset, .unset, .unset, .unset, .unset, .unset, .unset, .unset] [])) t → Steps p.tables e below (s₁.setTop (entryFrame m #[(.int x0), (.int x1), (.int x2), (.int x3), (.int x4)] maxLocals)) t := fun t k => pre12 t (by
              refine st11 _ ?_
              show Steps p.tables e below (T11.setTop (mkF m 30 #[.val (.int x0), .val (.int x1), .val (.int x2), .val (.int x3), .val (.int x4), .val (.int (x0 &&& (3 : Int32))), .unset, .unset, .unset, .unset, .unset, .unset, .unset, .unset, .unset, .unset] [(.ref a11)])) _
              refine XS.astore X11.here hx rfl (hb hby at_30) rfl rfl (l' := #[.val (.int x0), .val (.int x1), .val (.int x2), .val (.int x3), .val (.int x4), .val (.int (x0 &&& (3 : Int32))), .val (.ref a11), .unset, .unset, .unset, .unset, .unset, .unset, .unset, .unset, .unset]) rfl ?_
              show Steps p.tables e below (T11.setTop (mkF m 32 #[.val (.int x0), .val (.int x1), .val (.int x2), .val (.int x3), .val (.int x4), .val (.int (x0 &&& (3 : Int32))), .val (.ref a11), .unset, .unset, .unset, .unset, .unset, .unset, .unset, .unset, .unset] [])) _
              refine st14 _ ?_
              show Steps p.tables e below (T14.setTop (mkF m 35 #[.val (.int x0), .val (.int x1), .val (.int x2), .val (.int x3), .val (.int x4), .val (.int (x0 &&& (3 : Int32))), .val (.ref a11), .unset, .unset, .unset, .unset, .unset, .unset, .unset, .unset, .unset] [(.ref w1)])) _
              refine XS.astore X14.here hx rfl (hb hby at_35) rfl rfl (l' := #[.val (.int x0), .val (.int x1), .val (.int x2), .val (.int x3), .val (.int x4), .val (.int (x0 &&& (3 : Int32))), .val (.ref a11), .val (.ref w1), .unset, .unset, .unset, .unset, .unset, .unset, .unset, .unset]) rfl ?_
              show Steps p.tables e below (T14.setTop (mkF m 37 #[.val (.int x0), .val (.int x1), .val (.int x2), .val (.int x3), .val (.int x4), .val (.int (x0 &&& (3 : Int32))), .val (.ref a11), .val (.ref w1), .unset, .unset, .unset, .unset, .unset, .unset, .unset, .unset] [])) _
              refine XS.goto X14.here hx rfl (pc0 := 37) (pc' := 67) rfl (hb hby at_37) (by decide) (by decide) ?_
              exact k)
            as_aux_lemma =>
              exact ⟨T14, h11, _, _, _, a11, b11, kb11, 1, w1, X14.more (by decide) (by decide), e14, N0, Z13, hS, hk, hZ, hown, hI, O, Ee11, Fc11, Fv11, Vb11, (by decide), rfl, fun t k => pre15 t k⟩
        · skip
          as_aux_lemma =>
            have pre16 : ∀ t, Steps p.tables e below (s₁.setTop (mkF m 43 #[.val (.int x0), .val (.int x1), .val (.int x2), .val (.int x3), .val (.int x4), .val (.int (x0 &&& (3 : Int32))), .unset, .unset, .unset, .unset, .unset, .unset, .unset, .unset, .unset, .unset] [(.int 2), (.int (x0 &&& (3 : Int32)))])) t → Steps p.tables e below (s₁.setTop (entryFrame m #[(.int x0), (.int x1), (.int x2), (.int x3), (.int x4)] maxLocals)) t := fun t k => pre9 t (by
              refine XS.icmpYes X0.here hx rfl (pc0 := 25) (pc' := 40) rfl (hb hby at_25) rfl (feq hc10).2 (by decide) (by decide) ?_
              show Steps p.tables e below (s₁.setTop (mkF m 40 #[.val (.int x0), .val (.int x1), .val (.int x2), .val (.int x3), .val (.int x4), .val (.int (x0 &&& (3 : Int32))), .unset, .unset, .unset, .unset, .unset, .unset, .unset, .unset, .unset, .unset] [])) _
              refine XS.iload X0.here hx rfl (hb hby at_40) rfl ?_
              show Steps p.tables e below (s₁.setTop (mkF m 42 #[.val (.int x0), .val (.int x1), .val (.int x2), .val (.int x3), .val (.int x4), .val (.int (x0 &&& (3 : Int32))), .unset, .unset, .unset, .unset, .unset, .unset, .unset, .unset, .unset, .unset] [(.int (x0 &&& (3 : Int32)))])) _
              refine XS.iconst X0.here hx rfl (hb hby at_42) ?_
              show Steps p.tables e below (s₁.setTop (mkF m 43 #[.val (.int x0), .val (.int x1), .val (.int x2), .val (.int x3), .val (.int x4), .val (.int (x0 &&& (3 : Int32))), .unset, .unset, .unset, .unset, .unset, .unset, .unset, .unset, .unset, .unset] [(.int 2), (.int (x0 &&& (3 : Int32)))])) _
              exact k)
            by_cases hc17 : (x0 &&& (3 : Int32)) = (2 : Int32)
            · skip
              as_aux_lemma =>
                have pre19 : ∀ t, Steps p.tables e below (s₁.setTop (mkF m 46 #[.val (.int x0), .val (.int x1), .val (.int x2), .val (.int x3), .val (.int x4), .val (.int (x0 &&& (3 : Int32))), .unset, .unset, .unset, .unset, .unset, .unset, .unset, .unset, .unset, .unset] [])) t → Steps p.tables e below (s₁.setTop (entryFrame m #[(.int x0), (.int x1), (.int x2), (.int x3), (.int x4)] maxLocals)) t := fun t k => pre16 t (by
                  refine XS.icmpNo X0.here hx rfl (hb hby at_43) rfl (teq hc17).2 ?_
                  show Steps p.tables e below (s₁.setTop (mkF m 46 #[.val (.int x0), .val (.int x1), .val (.int x2), .val (.int x3), .val (.int x4), .val (.int (x0 &&& (3 : Int32))), .unset, .unset, .unset, .unset, .unset, .unset, .unset, .unset, .unset, .unset] [])) _
                  exact k)
                obtain ⟨a18, T18, h18, k18, b18, kb18, X18, e18, E18, hS, hk, hZ, hown, Ee18, Fc18, Fv18, Vb18, lta, ltb, hI, LT, wh, st18⟩ := ldcSVd X0 hx hZ hown (hw _ (own_m (i := 110) rfl)) (own_wS hw) e0 hS hk (Fr.nil _) (fun b cl q => by rw [hh]; exact O0.2.2 b cl q) hI (by simp) HC2 hcw (vs := (List.map (fun c => Value.int (StrChars.lo8 c)) (own_S 2))) (z := Int32.ofNat (own_S 2).length) ⟨by decide, rfl⟩ (by decide) rfl (g := (mkF m 46 #[.val (.int x0), .val (.int x1), .val (.int x2), .val (.int x3), .val (.int x4), .val (.int (x0 &&& (3 : Int32))), .unset, .unset, .unset, .unset, .unset, .unset, .unset, .unset, .unset, .unset] [])) rfl (hb hby at_46) (n := 48) (by decide) (by decide) (by decide) (by decide)
                have O := O.ext E18
                have Z20 : n0 ≤ h18.size := Nat.le_trans Z0 E18.1
                obtain ⟨T21, X21, e21, st21⟩ := getS2 X18 hx hZ hown (host := "") (Or.inl (hw _ (own_m (i := 111) rfl))) Via.refl e18 (S_2.ext O.2) (g := (mkF m 50 #[.val (.int x0), .val (.int x1), .val (.int x2), .val (.int x3), .val (.int x4), .val (.int (x0 &&& (3 : Int32))), .val (.ref a18), .unset, .unset, .unset, .unset, .unset, .unset, .unset, .unset, .unset] [])) rfl (hb hby at_50)
                have pre22 : ∀ t, Steps p.tables e below (T21.setTop (mkF m 67 #[.val (.int x0), .val (.int x1), .val (.int x2), .val (.int x3), .val (.int x4), .val (.int (x0 &&& (3 : Int32))), .val (.ref a18), .val (.ref w2), .unset, .unset, .unset, .unset, .unset, .unset, .unset, .unset] [])) t → Steps p.tables e below (s₁.setTop (entryFrame m #[(.int x0), (.int x1), (.int x2), (.int x3), (.int x4)] maxLocals)) t := fun t k => pre19 t (by
                  refine st18 _ ?_
                  show Steps p.tables e below (T18.setTop (mkF m 48 #[.val (.int x0), .val (.int x1), .val (.int x2), .val (.int x3), .val (.int x4), .val (.int (x0 &&& (3 : Int32))), .unset, .unset, .unset, .unset, .unset, .unset, .unset, .unset, .unset, .unset] [(.ref a18)])) _
                  refine XS.astore X18.here hx rfl (hb hby at_48) rfl rfl (l' := #[.val (.int x0), .val (.int x1), .val (.int x2), .val (.int x3), .val (.int x4), .val (.int (x0 &&& (3 : Int32))), .val (.ref a18), .unset, .unset, .unset, .unset, .unset, .unset, .unset, .unset, .unset]) rfl ?_
                  show Steps p.tables e below (T18.setTop (mkF m 50 #[.val (.int x0), .val (.int x1), .val (.int x2), .val (.int x3), .val (.int x4), .val (.int (x0 &&& (3 : Int32))), .val (.ref a18), .unset, .unset, .unset, .unset, .unset, .unset, .unset, .unset, .unset] [])) _
                  refine st21 _ ?_
                  show Steps p.tables e below (T21.setTop (mkF m 53 #[.val (.int x0), .val (.int x1), .val (.int x2), .val (.int x3), .val (.int x4), .val (.int (x0 &&& (3 : Int32))), .val (.ref a18), .unset, .unset, .unset, .unset, .unset, .unset, .unset, .unset, .unset] [(.ref w2)])) _
                  refine XS.astore X21.here hx rfl (hb hby at_53) rfl rfl (l' := #[.val (.int x0), .val (.int x1), .val (.int x2), .val (.int x3), .val (.int x4), .val (.int (x0 &&& (3 : Int32))), .val (.ref a18), .val (.ref w2), .unset, .unset, .unset, .unset, .unset, .unset, .unset, .unset]) rfl ?_
                  show Steps p.tables e below (T21.setTop (mkF m 55 #[.val (.int x0), .val (.int x1), .val (.int x2), .val (.int x3), .val (.int x4), .val (.int (x0 &&& (3 : Int32))), .val (.ref a18), .val (.ref w2), .unset, .unset, .unset, .unset, .unset, .unset, .unset, .unset] [])) _
                  refine XS.goto X21.here hx rfl (pc0 := 55) (pc' := 67) rfl (hb hby at_55) (by decide) (by decide) ?_
                  exact k)
                as_aux_lemma =>
                  exact ⟨T21, h18, _, _, _, a18, b18, kb18, 2, w2, X21.more (by decide) (by decide), e21, N0, Z20, hS, hk, hZ, hown, hI, O, Ee18, Fc18, Fv18, Vb18, (by decide), rfl, fun t k => pre22 t k⟩
            · skip
              as_aux_lemma =>
                have pre24 : ∀ t, Steps p.tables e below (s₁.setTop (mkF m 58 #[.val (.int x0), .val (.int x1), .val (.int x2), .val (.int x3), .val (.int x4), .val (.int (x0 &&& (3 : Int32))), .unset, .unset, .unset, .unset, .unset, .unset, .unset, .unset, .unset, .unset] [])) t → Steps p.tables e below (s₁.setTop (entryFrame m #[(.int x0), (.int x1), (.int x2), (.int x3), (.int x4)] maxLocals)) t := fun t k => pre16 t (by
                  refine XS.icmpYes X0.here hx rfl (pc0 := 43) (pc' := 58) rfl (hb hby at_43) rfl (feq hc17).2 (by decide) (by decide) ?_
                  show Steps p.tables e below (s₁.setTop (mkF m 58 #[.val (.int x0), .val (.int x1), .val (.int x2), .val (.int x3), .val (.int x4), .val (.int (x0 &&& (3 : Int32))), .unset, .unset, .unset, .unset, .unset, .unset, .unset, .unset, .unset, .unset] [])) _
                  exact k)
                obtain ⟨a23, T23, h23, k23, b23, kb23, X23, e23, E23, hS, hk, hZ, hown, Ee23, Fc23, Fv23, Vb23, lta, ltb, hI, LT, wh, st23⟩ := ldcSVd X0 hx hZ hown (hw _ (own_m (i := 107) rfl)) (own_wS hw) e0 hS hk (Fr.nil _) (fun b cl q => by rw [hh]; exact O0.2.2 b cl q) hI (by simp) HC3 hcw (vs := (List.map (fun c => Value.int (StrChars.lo8 c)) (own_S 3))) (z := Int32.ofNat (own_S 3).length) ⟨by decide, rfl⟩ (by decide) rfl (g := (mkF m 58 #[.val (.int x0), .val (.int x1), .val (.int x2), .val (.int x3), .val (.int x4), .val (.int (x0 &&& (3 : Int32))), .unset, .unset, .unset, .unset, .unset, .unset, .unset, .unset, .unset, .unset] [])) rfl (hb hby at_58) (n := 12) (by decide) (by decide) (by decide) (by decide)
                have O := O.ext E23
                have Z25 : n0 ≤ h23.size := Nat.le_trans Z0 E23.1
                obtain ⟨T26, X26, e26, st26⟩ := getS2 X23 hx hZ hown (host := "") (Or.inl (hw _ (own_m (i := 108) rfl))) Via.refl e23 (S_3.ext O.2) (g := (mkF m 62 #[.val (.int x0), .val (.int x1), .val (.int x2), .val (.int x3), .val (.int x4), .val (.int (x0 &&& (3 : Int32))), .val (.ref a23), .unset, .unset, .unset, .unset, .unset, .unset, .unset, .unset, .unset] [])) rfl (hb hby at_62)
                have pre27 : ∀ t, Steps p.tables e below (T26.setTop (mkF m 67 #[.val (.int x0), .val (.int x1), .val (.int x2), .val (.int x3), .val (.int x4), .val (.int (x0 &&& (3 : Int32))), .val (.ref a23), .val (.ref w3), .unset, .unset, .unset, .unset, .unset, .unset, .unset, .unset] [])) t → Steps p.tables e below (s₁.setTop (entryFrame m #[(.int x0), (.int x1), (.int x2), (.int x3), (.int x4)] maxLocals)) t := fun t k => pre24 t (by
                  refine st23 _ ?_
                  show Steps p.tables e below (T23.setTop (mkF m 60 #[.val (.int x0), .val (.int x1), .val (.int x2), .val (.int x3), .val (.int x4), .val (.int (x0 &&& (3 : Int32))), .unset, .unset, .unset, .unset, .unset, .unset, .unset, .unset, .unset, .unset] [(.ref a23)])) _
                  refine XS.astore X23.here hx rfl (hb hby at_60) rfl rfl (l' := #[.val (.int x0), .val (.int x1), .val (.int x2), .val (.int x3), .val (.int x4), .val (.int (x0 &&& (3 : Int32))), .val (.ref a23), .unset, .unset, .unset, .unset, .unset, .unset, .unset, .unset, .unset]) rfl ?_
                  show Steps p.tables e below (T23.setTop (mkF m 62 #[.val (.int x0), .val (.int x1), .val (.int x2), .val (.int x3), .val (.int x4), .val (.int (x0 &&& (3 : Int32))), .val (.ref a23), .unset, .unset, .unset, .unset, .unset, .unset, .unset, .unset, .unset] [])) _
                  refine st26 _ ?_
                  show Steps p.tables e below (T26.setTop (mkF m 65 #[.val (.int x0), .val (.int x1), .val (.int x2), .val (.int x3), .val (.int x4), .val (.int (x0 &&& (3 : Int32))), .val (.ref a23), .unset, .unset, .unset, .unset, .unset, .unset, .unset, .unset, .unset] [(.ref w3)])) _
                  refine XS.astore X26.here hx rfl (hb hby at_65) rfl rfl (l' := #[.val (.int x0), .val (.int x1), .val (.int x2), .val (.int x3), .val (.int x4), .val (.int (x0 &&& (3 : Int32))), .val (.ref a23), .val (.ref w3), .unset, .unset, .unset, .unset, .unset, .unset, .unset, .unset]) rfl ?_
                  exact k)
                as_aux_lemma =>
                  exact ⟨T26, h23, _, _, _, a23, b23, kb23, 3, w3, X26.more (by decide) (by decide), e26, N0, Z25, hS, hk, hZ, hown, hI, O, Ee23, Fc23, Fv23, Vb23, (by decide), rfl, fun t k => pre27 t k⟩
  as_aux_lemma =>
    obtain ⟨cq28, kq28, q28a, q28b, q28c⟩ := isOf hZ e1 Es
    obtain ⟨_, _, ⟨T28, L28, k28, n28⟩, -, X28, ⟨Lc28, hQ28, l28, y28, z28⟩, st28⟩ := X1.virtualBack hx (y := (⟨"java/lang/String", "length", "()I"⟩ : MethodName)) (z := (⟨"java/lang/String", "length", "()I"⟩ : MethodName)) hown (mvT hZ (hw _ (own_m (i := 11) rfl))) (mvT hZ (hw _ (own_m (i := 12) rfl))) (notFace_of_selects (args := #[]) (mvT hZ (hw _ (own_m (i := 14) rfl)))) (mvT hZ (hw _ (own_m (i := 14) rfl))) (mvT hZ (hw _ (own_m (i := 13) rfl))) (by decide) (StrChars.Road.lenW (W := 0) hZ (fun d hd => hw d ((by decide +kernel : ∀ d ∈ StrChars.Road.wordsLen, d ∈ tables_1) d hd)) (kI := 4) (hw _ (own_m (i := 2) rfl)) Es Fv Fc Vb (Or.inl ⟨rfl, rfl, rfl, fun c hc => (own_okS ii c hc).2⟩ : StrChars.Road.CodA (own_S ii) 0 (Int32.ofNat (own_S ii).length) (List.map (fun c => Value.int (StrChars.lo8 c)) (own_S ii))) (own_up _ (own_okS ii)) (S0.ext O.2) hcz (own_l4 ii) (by decide) (by decide)) q28a q28c (g := (mkF m 69 #[.val (.int x0), .val (.int x1), .val (.int x2), .val (.int x3), .val (.int x4), .val (.int (x0 &&& (3 : Int32))), .val (.ref sg), .val (.ref wk), .unset, .unset, .unset, .unset, .unset, .unset, .unset, .unset] [(.ref sg)])) rfl (by rw [hml]; rfl) (Steps.refl _) (argsL := []) (rest := []) (lenOf own_pd5 rfl) rfl (by show 2 * 0 + _ ≤ _; exact Nat.le_of_eq rfl) (hb hby at_69) (fun _ _ => ⟨rfl, e1, (by decide : 2 + 0 ≤ _), (by decide : 52 + 0 ≤ _)⟩)
    dsimp only [Pt.U, Pt.locs, Pt.cells, Pt.slots] at X28 l28 y28 z28 st28 hQ28
    subst l28 y28 z28
    obtain ⟨rfl, rfl, e28⟩ := hQ28
    have N28q := Fr.nil n0
    have N28 := Fr.app N1 N28q
    obtain ⟨T29, h29, k29, X29, e29, E29, A29, st29⟩ := newP X28 hx hZ (hw _ (own_m (i := 24) rfl)) e28 (g := (mkF m 89 #[.val (.int x0), .val (.int x1), .val (.int x2), .val (.int x3), .val (.int x4), .val (.int (x0 &&& (3 : Int32))), .val (.ref sg), .val (.ref wk), .val (.int (Int32.ofNat (own_S ii).length)), .val (.int (x1 &&& (3 : Int32))), .val (.int (x3 &&& (255 : Int32))), .unset, .unset, .unset, .unset, .unset] [(.int 14)])) rfl (hb hby at_89) rfl (by decide) (cap := 14) (by decide) (by decide) (by decide) (by decide)
    obtain ⟨b29, g29⟩ : ∃ z, z = h1.size := ⟨_, rfl⟩
    rw [← g29] at A29 st29
    have g_b29 : n0 ≤ b29 := Nat.le_trans Z1 (Nat.le_of_eq g29.symm)
    have ne_sg_b29 : sg ≠ b29 := Nat.ne_of_lt (Nat.lt_of_lt_of_le Es.lt (Nat.le_of_eq g29.symm))
    have ne_bv_b29 : bv ≠ b29 := Nat.ne_of_lt (Nat.lt_of_lt_of_le Vb.lt (Nat.le_of_eq g29.symm))
    have O := O.ext E29
    have Es := Es.ext E29
    have Fc := Fc.ext E29
    have Fv := Fv.ext E29
    have Vb := Vb.ext E29
    have hk := Nat.le_trans hk E29.1
    have Z30 : n0 ≤ h29.size := Nat.le_trans Z1 E29.1
    have V_b29 : Arv Z h29 b29 k29 .char (14 : Int32) [(.int 0), (.int 0), (.int 0), (.int 0), (.int 0), (.int 0), (.int 0), (.int 0), (.int 0), (.int 0), (.int 0), (.int 0), (.int 0), (.int 0)] (.int 0) := (Arv.new A29 (by decide)).pad (pad_rep [] (.int 0) 14)
    obtain ⟨_, _, ⟨T31, L31, k31, n31⟩, -, X31, ⟨Lc31, hQ31, l31, y31, z31⟩, st31⟩ := Jvm.LawKit.callS X29 hx (y := (⟨"com/example/millrace/millrace/definition/NodeKindOfElementPinLaw", "at", "(Ljava/lang/String;II)C"⟩ : MethodName)) hown (mvT hZ (hw _ (own_m (i := 25) rfl))) (mvT hZ (hw _ (own_m (i := 26) rfl))) (mvT hZ (hw _ (own_m (i := 27) rfl))) (mvT hZ (hw _ (own_m (i := 28) rfl))) (by decide) (backOf (W := 2) (own_at l Z a0 hw [] sg (Int32.ofNat (own_S ii).length) (0 : Int32) 0 bv kb (own_S ii) cz fm h29 n0 Z30 Es Fc Fv Vb (own_okS ii) (own_l4 ii) (S0.ext O.2) hcz (Sf.ext O.2) rfm rfl rfl (by decide)) hZ (hw _ (own_m (i := 28) rfl)) (hw _ (own_m (i := 27) rfl)) (by decide) (by decide)) (g := (mkF m 101 #[.val (.int x0), .val (.int x1), .val (.int x2), .val (.int x3), .val (.int x4), .val (.int (x0 &&& (3 : Int32))), .val (.ref sg), .val (.ref wk), .val (.int (Int32.ofNat (own_S ii).length)), .val (.int (x1 &&& (3 : Int32))), .val (.int (x3 &&& (255 : Int32))), .val (.ref b29), .unset, .unset, .unset, .unset] [(.int 0), (.int (Int32.ofNat (own_S ii).length)), (.ref sg), (.int 0), (.ref b29)])) rfl (by rw [hml]; rfl) (argsL := [(.ref sg), (.int (Int32.ofNat (own_S ii).length)), (.int 0)]) (rest := [(.int 0), (.ref b29)]) (lenOf own_pd6 rfl) rfl (by show 2 * 0 + _ ≤ _; exact Nat.le_of_eq rfl) (hb hby at_101) (fun _ _ => ⟨rfl, e29, (by decide : 3 + 0 ≤ _), (by decide : 66 + 0 ≤ _)⟩)
    dsimp only [Pt.U, Pt.locs, Pt.cells, Pt.slots] at X31 l31 y31 z31 st31 hQ31
    subst l31 y31 z31
    obtain ⟨rfl, N31q, e31⟩ := hQ31
    have N31 := Fr.app N28 N31q
    obtain ⟨cl32, Ar32, q32, S32, M32, H32, G32⟩ := id V_b29
    have hin32 : ¬ ((0 : Int32) < 0 ∨ cl32.slots.size ≤ ((0 : Int32)).toNatClampNeg) := inb_of S32 ⟨by decide, by decide⟩
    obtain ⟨T33, h33, X33, e33, W33, st33⟩ := stC X31 hx hZ e31 Ar32 (j := (0 : Int32)) hin32 (g := (mkF m 104 #[.val (.int x0), .val (.int x1), .val (.int x2), .val (.int x3), .val (.int x4), .val (.int (x0 &&& (3 : Int32))), .val (.ref sg), .val (.ref wk), .val (.int (Int32.ofNat (own_S ii).length)), .val (.int (x1 &&& (3 : Int32))), .val (.int (x3 &&& (255 : Int32))), .val (.ref b29), .unset, .unset, .unset, .unset] [(.int ((own_S ii).getD 0 0)), (.int 0), (.ref b29)])) rfl rfl (hb hby at_104)
    have O := O.wr W33 g_b29
    have Es := Es.wr W33
    have Fc := Fc.other W33 (Or.inl ne_sg_b29)
    have Fv := Fv.other W33 (Or.inl ne_sg_b29)
    have Vb := Vb.other W33 ne_bv_b29
    have hk := Nat.le_trans hk (Keep.of_wr W33).1
    have Z34 : n0 ≤ h33.size := Nat.le_trans Z30 (Keep.of_wr W33).1
    have V_b29 := Arv.set Ar32 q32 S32 M32 H32 G32 (fits_nar_char _) W33 0 rfl (Nat.le_of_ble_eq_true rfl)
    have V_b29 : Arv Z h33 b29 k29 .char (14 : Int32) [(.int ((own_S ii).getD 0 0)), (.int 0), (.int 0), (.int 0), (.int 0), (.int 0), (.int 0), (.int 0), (.int 0), (.int 0), (.int 0), (.int 0), (.int 0), (.int 0)] (.int 0) := by have q := V_b29; simp only [(own_c8 (own_gd (own_okS ii) 0)), List.set] at q; exact q
    have N33 := Fr.snoc X33 N31 g_b29
    obtain ⟨_, _, ⟨T35, L35, k35, n35⟩, -, X35, ⟨Lc35, hQ35, l35, y35, z35⟩, st35⟩ := Jvm.LawKit.callS X33 hx (y := (⟨"com/example/millrace/millrace/definition/NodeKindOfElementPinLaw", "at", "(Ljava/lang/String;II)C"⟩ : MethodName)) hown (mvT hZ (hw _ (own_m (i := 25) rfl))) (mvT hZ (hw _ (own_m (i := 26) rfl))) (mvT hZ (hw _ (own_m (i := 27) rfl))) (mvT hZ (hw _ (own_m (i := 28) rfl))) (by decide) (backOf (W := 2) (own_at l Z a0 hw [] sg (Int32.ofNat (own_S ii).length) (1 : Int32) 1 bv kb (own_S ii) cz fm h33 n0 Z34 Es Fc Fv Vb (own_okS ii) (own_l4 ii) (S0.ext O.2) hcz (Sf.ext O.2) rfm rfl rfl (by decide)) hZ (hw _ (own_m (i := 28) rfl)) (hw _ (own_m (i := 27) rfl)) (by decide) (by decide)) (g := (mkF m 113 #[.val (.int x0), .val (.int x1), .val (.int x2), .val (.int x3), .val (.int x4), .val (.int (x0 &&& (3 : Int32))), .val (.ref sg), .val (.ref wk), .val (.int (Int32.ofNat (own_S ii).length)), .val (.int (x1 &&& (3 : Int32))), .val (.int (x3 &&& (255 : Int32))), .val (.ref b29), .unset, .unset, .unset, .unset] [(.int 1), (.int (Int32.ofNat (own_S ii).length)), (.ref sg), (.int 1), (.ref b29)])) rfl (by rw [hml]; rfl) (argsL := [(.ref sg), (.int (Int32.ofNat (own_S ii).length)), (.int 1)]) (rest := [(.int 1), (.ref b29)]) (lenOf own_pd6 rfl) rfl (by show 2 * 0 + _ ≤ _; exact Nat.le_of_eq rfl) (hb hby at_113) (fun _ _ => ⟨rfl, e33, (by decide : 3 + 0 ≤ _), (by decide : 66 + 0 ≤ _)⟩)
    dsimp only [Pt.U, Pt.locs, Pt.cells, Pt.slots] at X35 l35 y35 z35 st35 hQ35
    subst l35 y35 z35
    obtain ⟨rfl, N35q, e35⟩ := hQ35
    have N35 := Fr.app N33 N35q
    obtain ⟨cl36, Ar36, q36, S36, M36, H36, G36⟩ := id V_b29
    have hin36 : ¬ ((1 : Int32) < 0 ∨ cl36.slots.size ≤ ((1 : Int32)).toNatClampNeg) := inb_of S36 ⟨by decide, by decide⟩
    obtain ⟨T37, h37, X37, e37, W37, st37⟩ := stC X35 hx hZ e35 Ar36 (j := (1 : Int32)) hin36 (g := (mkF m 116 #[.val (.int x0), .val (.int x1), .val (.int x2), .val (.int x3), .val (.int x4), .val (.int (x0 &&& (3 : Int32))), .val (.ref sg), .val (.ref wk), .val (.int (Int32.ofNat (own_S ii).length)), .val (.int (x1 &&& (3 : Int32))), .val (.int (x3 &&& (255 : Int32))), .val (.ref b29), .unset, .unset, .unset, .unset] [(.int ((own_S ii).getD 1 0)), (.int 1), (.ref b29)])) rfl rfl (hb hby at_116)
    have O := O.wr W37 g_b29
    have Es := Es.wr W37
    have Fc := Fc.other W37 (Or.inl ne_sg_b29)
    have Fv := Fv.other W37 (Or.inl ne_sg_b29)
    have Vb := Vb.other W37 ne_bv_b29
    have hk := Nat.le_trans hk (Keep.of_wr W37).1
    have Z38 : n0 ≤ h37.size := Nat.le_trans Z34 (Keep.of_wr W37).1
    have V_b29 := Arv.set Ar36 q36 S36 M36 H36 G36 (fits_nar_char _) W37 1 rfl (Nat.le_of_ble_eq_true rfl)
    have V_b29 : Arv Z h37 b29 k29 .char (14 : Int32) [(.int ((own_S ii).getD 0 0)), (.int ((own_S ii).getD 1 0)), (.int 0), (.int 0), (.int 0), (.int 0), (.int 0), (.int 0), (.int 0), (.int 0), (.int 0), (.int 0), (.int 0), (.int 0)] (.int 0) := by have q := V_b29; simp only [(own_c8 (own_gd (own_okS ii) 1)), List.set] at q; exact q
    have N37 := Fr.snoc X37 N35 g_b29
    obtain ⟨_, _, ⟨T39, L39, k39, n39⟩, -, X39, ⟨Lc39, hQ39, l39, y39, z39⟩, st39⟩ := Jvm.LawKit.callS X37 hx (y := (⟨"com/example/millrace/millrace/definition/NodeKindOfElementPinLaw", "at", "(Ljava/lang/String;II)C"⟩ : MethodName)) hown (mvT hZ (hw _ (own_m (i := 25) rfl))) (mvT hZ (hw _ (own_m (i := 26) rfl))) (mvT hZ (hw _ (own_m (i := 27) rfl))) (mvT hZ (hw _ (own_m (i := 28) rfl))) (by decide) (backOf (W := 2) (own_at l Z a0 hw [] sg (Int32.ofNat (own_S ii).length) (2 : Int32) 2 bv kb (own_S ii) cz fm h37 n0 Z38 Es Fc Fv Vb (own_okS ii) (own_l4 ii) (S0.ext O.2) hcz (Sf.ext O.2) rfm rfl rfl (by decide)) hZ (hw _ (own_m (i := 28) rfl)) (hw _ (own_m (i := 27) rfl)) (by decide) (by decide)) (g := (mkF m 125 #[.val (.int x0), .val (.int x1), .val (.int x2), .val (.int x3), .val (.int x4), .val (.int (x0 &&& (3 : Int32))), .val (.ref sg), .val (.ref wk), .val (.int (Int32.ofNat (own_S ii).length)), .val (.int (x1 &&& (3 : Int32))), .val (.int (x3 &&& (255 : Int32))), .val (.ref b29), .unset, .unset, .unset, .unset] [(.int 2), (.int (Int32.ofNat (own_S ii).length)), (.ref sg), (.int 2), (.ref b29)])) rfl (by rw [hml]; rfl) (argsL := [(.ref sg), (.int (Int32.ofNat (own_S ii).length)), (.int 2)]) (rest := [(.int 2), (.ref b29)]) (lenOf own_pd6 rfl) rfl (by show 2 * 0 + _ ≤ _; exact Nat.le_of_eq rfl) (hb hby at_125) (fun _ _ => ⟨rfl, e37, (by decide : 3 + 0 ≤ _), (by decide : 66 + 0 ≤ _)⟩)
    dsimp only [Pt.U, Pt.locs, Pt.cells, Pt.slots] at X39 l39 y39 z39 st39 hQ39
    subst l39 y39 z39
    obtain ⟨rfl, N39q, e39⟩ := hQ39
    have N39 := Fr.app N37 N39q
    obtain ⟨cl40, Ar40, q40, S40, M40, H40, G40⟩ := id V_b29
    have hin40 : ¬ ((2 : Int32) < 0 ∨ cl40.slots.size ≤ ((2 : Int32)).toNatClampNeg) := inb_of S40 ⟨by decide, by decide⟩
    obtain ⟨T41, h41, X41, e41, W41, st41⟩ := stC X39 hx hZ e39 Ar40 (j := (2 : Int32)) hin40 (g := (mkF m 128 #[.val (.int x0), .val (.int x1), .val (.int x2), .val (.int x3), .val (.int x4), .val (.int (x0 &&& (3 : Int32))), .val (.ref sg), .val (.ref wk), .val (.int (Int32.ofNat (own_S ii).length)), .val (.int (x1 &&& (3 : Int32))), .val (.int (x3 &&& (255 : Int32))), .val (.ref b29), .unset, .unset, .unset, .unset] [(.int ((own_S ii).getD 2 0)), (.int 2), (.ref b29)])) rfl rfl (hb hby at_128)
    have O := O.wr W41 g_b29
    have Es := Es.wr W41
    have Fc := Fc.other W41 (Or.inl ne_sg_b29)
    have Fv := Fv.other W41 (Or.inl ne_sg_b29)
    have Vb := Vb.other W41 ne_bv_b29
    have hk := Nat.le_trans hk (Keep.of_wr W41).1
    have Z42 : n0 ≤ h41.size := Nat.le_trans Z38 (Keep.of_wr W41).1
    have V_b29 := Arv.set Ar40 q40 S40 M40 H40 G40 (fits_nar_char _) W41 2 rfl (Nat.le_of_ble_eq_true rfl)
    have V_b29 : Arv Z h41 b29 k29 .char (14 : Int32) [(.int ((own_S ii).getD 0 0)), (.int ((own_S ii).getD 1 0)), (.int ((own_S ii).getD 2 0)), (.int 0), (.int 0), (.int 0), (.int 0), (.int 0), (.int 0), (.int 0), (.int 0), (.int 0), (.int 0), (.int 0)] (.int 0) := by have q := V_b29; simp only [(own_c8 (own_gd (own_okS ii) 2)), List.set] at q; exact q
    have N41 := Fr.snoc X41 N39 g_b29
    obtain ⟨LL43, X43, N43⟩ : ∃ L, Stand p l e room_1 _ m #[(.int x0), (.int x1), (.int x2), (.int x3), (.int x4)] below meth c T41 L 3 66 ∧ Fr n0 L := ⟨_, X41, N41⟩
    have pre44 : ∀ t, Steps p.tables e below (T41.setTop (mkF m 129 #[.val (.int x0), .val (.int x1), .val (.int x2), .val (.int x3), .val (.int x4), .val (.int (x0 &&& (3 : Int32))), .val (.ref sg), .val (.ref wk), .val (.int (Int32.ofNat (own_S ii).length)), .val (.int (x1 &&& (3 : Int32))), .val (.int (x3 &&& (255 : Int32))), .val (.ref b29), .unset, .unset, .unset, .unset] [])) t → Steps p.tables e below (s₁.setTop (entryFrame m #[(.int x0), (.int x1), (.int x2), (.int x3), (.int x4)] maxLocals)) t := fun t k => pre1 t (by
      show Steps p.tables e below (T1.setTop (mkF m 67 #[.val (.int x0), .val (.int x1), .val (.int x2), .val (.int x3), .val (.int x4), .val (.int (x0 &&& (3 : Int32))), .val (.ref sg), .val (.ref wk), .unset, .unset, .unset, .unset, .unset, .unset, .unset, .unset] [])) _
      refine XS.aload X1.here hx rfl (hb hby at_67) rfl rfl ?_
      show Steps p.tables e below (T1.setTop (mkF m 69 #[.val (.int x0), .val (.int x1), .val (.int x2), .val (.int x3), .val (.int x4), .val (.int (x0 &&& (3 : Int32))), .val (.ref sg), .val (.ref wk), .unset, .unset, .unset, .unset, .unset, .unset, .unset, .unset] [(.ref sg)])) _
      refine st28.trans ?_
      show Steps p.tables e below (T28.setTop (mkF m 72 #[.val (.int x0), .val (.int x1), .val (.int x2), .val (.int x3), .val (.int x4), .val (.int (x0 &&& (3 : Int32))), .val (.ref sg), .val (.ref wk), .unset, .unset, .unset, .unset, .unset, .unset, .unset, .unset] [(.int (Int32.ofNat (own_S ii).length))])) _
      refine XS.istore X28.here hx rfl (hb hby at_72) rfl (l' := #[.val (.int x0), .val (.int x1), .val (.int x2), .val (.int x3), .val (.int x4), .val (.int (x0 &&& (3 : Int32))), .val (.ref sg), .val (.ref wk), .val (.int (Int32.ofNat (own_S ii).length)), .unset, .unset, .unset, .unset, .unset, .unset, .unset]) rfl ?_
      show Steps p.tables e below (T28.setTop (mkF m 74 #[.val (.int x0), .val (.int x1), .val (.int x2), .val (.int x3), .val (.int x4), .val (.int (x0 &&& (3 : Int32))), .val (.ref sg), .val (.ref wk), .val (.int (Int32.ofNat (own_S ii).length)), .unset, .unset, .unset, .unset, .unset, .unset, .unset] [])) _
      refine XS.iloadN X28.here hx rfl (hb hby at_74) rfl ?_
      show Steps p.tables e below (T28.setTop (mkF m 75 #[.val (.int x0), .val (.int x1), .val (.int x2), .val (.int x3), .val (.int x4), .val (.int (x0 &&& (3 : Int32))), .val (.ref sg), .val (.ref wk), .val (.int (Int32.ofNat (own_S ii).length)), .unset, .unset, .unset, .unset, .unset, .unset, .unset] [(.int x1)])) _
      refine XS.iconst X28.here hx rfl (hb hby at_75) ?_
      show Steps p.tables e below (T28.setTop (mkF m 76 #[.val (.int x0), .val (.int x1), .val (.int x2), .val (.int x3), .val (.int x4), .val (.int (x0 &&& (3 : Int32))), .val (.ref sg), .val (.ref wk), .val (.int (Int32.ofNat (own_S ii).length)), .unset, .unset, .unset, .unset, .unset, .unset, .unset] [(.int 3), (.int x1)])) _
      refine XS.iand X28.here hx rfl (hb hby at_76) rfl ?_
      show Steps p.tables e below (T28.setTop (mkF m 77 #[.val (.int x0), .val (.int x1), .val (.int x2), .val (.int x3), .val (.int x4), .val (.int (x0 &&& (3 : Int32))), .val (.ref sg), .val (.ref wk), .val (.int (Int32.ofNat (own_S ii).length)), .unset, .unset, .unset, .unset, .unset, .unset, .unset] [(.int (x1 &&& (3 : Int32)))])) _
      refine XS.istore X28.here hx rfl (hb hby at_77) rfl (l' := #[.val (.int x0), .val (.int x1), .val (.int x2), .val (.int x3), .val (.int x4), .val (.int (x0 &&& (3 : Int32))), .val (.ref sg), .val (.ref wk), .val (.int (Int32.ofNat (own_S ii).length)), .val (.int (x1 &&& (3 : Int32))), .unset, .unset, .unset, .unset, .unset, .unset]) rfl ?_
      show Steps p.tables e below (T28.setTop (mkF m 79 #[.val (.int x0), .val (.int x1), .val (.int x2), .val (.int x3), .val (.int x4), .val (.int (x0 &&& (3 : Int32))), .val (.ref sg), .val (.ref wk), .val (.int (Int32.ofNat (own_S ii).length)), .val (.int (x1 &&& (3 : Int32))), .unset, .unset, .unset, .unset, .unset, .unset] [])) _
      refine XS.iloadN X28.here hx rfl (hb hby at_79) rfl ?_
      show Steps p.tables e below (T28.setTop (mkF m 80 #[.val (.int x0), .val (.int x1), .val (.int x2), .val (.int x3), .val (.int x4), .val (.int (x0 &&& (3 : Int32))), .val (.ref sg), .val (.ref wk), .val (.int (Int32.ofNat (own_S ii).length)), .val (.int (x1 &&& (3 : Int32))), .unset, .unset, .unset, .unset, .unset, .unset] [(.int x3)])) _
      refine XS.sipush X28.here hx rfl (hb hby at_80) ?_
      show Steps p.tables e below (T28.setTop (mkF m 83 #[.val (.int x0), .val (.int x1), .val (.int x2), .val (.int x3), .val (.int x4), .val (.int (x0 &&& (3 : Int32))), .val (.ref sg), .val (.ref wk), .val (.int (Int32.ofNat (own_S ii).length)), .val (.int (x1 &&& (3 : Int32))), .unset, .unset, .unset, .unset, .unset, .unset] [(.int 255), (.int x3)])) _
      refine XS.iand X28.here hx rfl (hb hby at_83) rfl ?_
      show Steps p.tables e below (T28.setTop (mkF m 84 #[.val (.int x0), .val (.int x1), .val (.int x2), .val (.int x3), .val (.int x4), .val (.int (x0 &&& (3 : Int32))), .val (.ref sg), .val (.ref wk), .val (.int (Int32.ofNat (own_S ii).length)), .val (.int (x1 &&& (3 : Int32))), .unset, .unset, .unset, .unset, .unset, .unset] [(.int (x3 &&& (255 : Int32)))])) _
      refine XS.i2c X28.here hx rfl (hb hby at_84) rfl ?_
      rw [i2c_mask]
      show Steps p.tables e below (T28.setTop (mkF m 85 #[.val (.int x0), .val (.int x1), .val (.int x2), .val (.int x3), .val (.int x4), .val (.int (x0 &&& (3 : Int32))), .val (.ref sg), .val (.ref wk), .val (.int (Int32.ofNat (own_S ii).length)), .val (.int (x1 &&& (3 : Int32))), .unset, .unset, .unset, .unset, .unset, .unset] [(.int (x3 &&& (255 : Int32)))])) _
      refine XS.istore X28.here hx rfl (hb hby at_85) rfl (l' := #[.val (.int x0), .val (.int x1), .val (.int x2), .val (.int x3), .val (.int x4), .val (.int (x0 &&& (3 : Int32))), .val (.ref sg), .val (.ref wk), .val (.int (Int32.ofNat (own_S ii).length)), .val (.int (x1 &&& (3 : Int32))), .val (.int (x3 &&& (255 : Int32))), .unset, .unset, .unset, .unset, .unset]) rfl ?_
      show Steps p.tables e below (T28.setTop (mkF m 87 #[.val (.int x0), .val (.int x1), .val (.int x2), .val (.int x3), .val (.int x4), .val (.int (x0 &&& (3 : Int32))), .val (.ref sg), .val (.ref wk), .val (.int (Int32.ofNat (own_S ii).length)), .val (.int (x1 &&& (3 : Int32))), .val (.int (x3 &&& (255 : Int32))), .unset, .unset, .unset, .unset, .unset] [])) _
      refine XS.bipush X28.here hx rfl (hb hby at_87) ?_
      show Steps p.tables e below (T28.setTop (mkF m 89 #[.val (.int x0), .val (.int x1), .val (.int x2), .val (.int x3), .val (.int x4), .val (.int (x0 &&& (3 : Int32))), .val (.ref sg), .val (.ref wk), .val (.int (Int32.ofNat (own_S ii).length)), .val (.int (x1 &&& (3 : Int32))), .val (.int (x3 &&& (255 : Int32))), .unset, .unset, .unset, .unset, .unset] [(.int 14)])) _
      refine st29 _ ?_
      show Steps p.tables e below (T29.setTop (mkF m 91 #[.val (.int x0), .val (.int x1), .val (.int x2), .val (.int x3), .val (.int x4), .val (.int (x0 &&& (3 : Int32))), .val (.ref sg), .val (.ref wk), .val (.int (Int32.ofNat (own_S ii).length)), .val (.int (x1 &&& (3 : Int32))), .val (.int (x3 &&& (255 : Int32))), .unset, .unset, .unset, .unset, .unset] [(.ref b29)])) _
      refine XS.astore X29.here hx rfl (hb hby at_91) rfl rfl (l' := #[.val (.int x0), .val (.int x1), .val (.int x2), .val (.int x3), .val (.int x4), .val (.int (x0 &&& (3 : Int32))), .val (.ref sg), .val (.ref wk), .val (.int (Int32.ofNat (own_S ii).length)), .val (.int (x1 &&& (3 : Int32))), .val (.int (x3 &&& (255 : Int32))), .val (.ref b29), .unset, .unset, .unset, .unset]) rfl ?_
      show Steps p.tables e below (T29.setTop (mkF m 93 #[.val (.int x0), .val (.int x1), .val (.int x2), .val (.int x3), .val (.int x4), .val (.int (x0 &&& (3 : Int32))), .val (.ref sg), .val (.ref wk), .val (.int (Int32.ofNat (own_S ii).length)), .val (.int (x1 &&& (3 : Int32))), .val (.int (x3 &&& (255 : Int32))), .val (.ref b29), .unset, .unset, .unset, .unset] [])) _
      refine XS.aload X29.here hx rfl (hb hby at_93) rfl rfl ?_
      show Steps p.tables e below (T29.setTop (mkF m 95 #[.val (.int x0), .val (.int x1), .val (.int x2), .val (.int x3), .val (.int x4), .val (.int (x0 &&& (3 : Int32))), .val (.ref sg), .val (.ref wk), .val (.int (Int32.ofNat (own_S ii).length)), .val (.int (x1 &&& (3 : Int32))), .val (.int (x3 &&& (255 : Int32))), .val (.ref b29), .unset, .unset, .unset, .unset] [(.ref b29)])) _
      refine XS.iconst X29.here hx rfl (hb hby at_95) ?_
      show Steps p.tables e below (T29.setTop (mkF m 96 #[.val (.int x0), .val (.int x1), .val (.int x2), .val (.int x3), .val (.int x4), .val (.int (x0 &&& (3 : Int32))), .val (.ref sg), .val (.ref wk), .val (.int (Int32.ofNat (own_S ii).length)), .val (.int (x1 &&& (3 : Int32))), .val (.int (x3 &&& (255 : Int32))), .val (.ref b29), .unset, .unset, .unset, .unset] [(.int 0), (.ref b29)])) _
      refine XS.aload X29.here hx rfl (hb hby at_96) rfl rfl ?_
      show Steps p.tables e below (T29.setTop (mkF m 98 #[.val (.int x0), .val (.int x1), .val (.int x2), .val (.int x3), .val (.int x4), .val (.int (x0 &&& (3 : Int32))), .val (.ref sg), .val (.ref wk), .val (.int (Int32.ofNat (own_S ii).length)), .val (.int (x1 &&& (3 : Int32))), .val (.int (x3 &&& (255 : Int32))), .val (.ref b29), .unset, .unset, .unset, .unset] [(.ref sg), (.int 0), (.ref b29)])) _
      refine XS.iload X29.here hx rfl (hb hby at_98) rfl ?_
      show Steps p.tables e below (T29.setTop (mkF m 100 #[.val (.int x0), .val (.int x1), .val (.int x2), .val (.int x3), .val (.int x4), .val (.int (x0 &&& (3 : Int32))), .val (.ref sg), .val (.ref wk), .val (.int (Int32.ofNat (own_S ii).length)), .val (.int (x1 &&& (3 : Int32))), .val (.int (x3 &&& (255 : Int32))), .val (.ref b29), .unset, .unset, .unset, .unset] [(.int (Int32.ofNat (own_S ii).length)), (.ref sg), (.int 0), (.ref b29)])) _
      refine XS.iconst X29.here hx rfl (hb hby at_100) ?_
      show Steps p.tables e below (T29.setTop (mkF m 101 #[.val (.int x0), .val (.int x1), .val (.int x2), .val (.int x3), .val (.int x4), .val (.int (x0 &&& (3 : Int32))), .val (.ref sg), .val (.ref wk), .val (.int (Int32.ofNat (own_S ii).length)), .val (.int (x1 &&& (3 : Int32))), .val (.int (x3 &&& (255 : Int32))), .val (.ref b29), .unset, .unset, .unset, .unset] [(.int 0), (.int (Int32.ofNat (own_S ii).length)), (.ref sg), (.int 0), (.ref b29)])) _
      refine st31 _ ?_
      show Steps p.tables e below (T31.setTop (mkF m 104 #[.val (.int x0), .val (.int x1), .val (.int x2), .val (.int x3), .val (.int x4), .val (.int (x0 &&& (3 : Int32))), .val (.ref sg), .val (.ref wk), .val (.int (Int32.ofNat (own_S ii).length)), .val (.int (x1 &&& (3 : Int32))), .val (.int (x3 &&& (255 : Int32))), .val (.ref b29), .unset, .unset, .unset, .unset] [(.int ((own_S ii).getD 0 0)), (.int 0), (.ref b29)])) _
      refine st33 _ ?_
      show Steps p.tables e below (T33.setTop (mkF m 105 #[.val (.int x0), .val (.int x1), .val (.int x2), .val (.int x3), .val (.int x4), .val (.int (x0 &&& (3 : Int32))), .val (.ref sg), .val (.ref wk), .val (.int (Int32.ofNat (own_S ii).length)), .val (.int (x1 &&& (3 : Int32))), .val (.int (x3 &&& (255 : Int32))), .val (.ref b29), .unset, .unset, .unset, .unset] [])) _
      refine XS.aload X33.here hx rfl (hb hby at_105) rfl rfl ?_
      show Steps p.tables e below (T33.setTop (mkF m 107 #[.val (.int x0), .val (.int x1), .val (.int x2), .val (.int x3), .val (.int x4), .val (.int (x0 &&& (3 : Int32))), .val (.ref sg), .val (.ref wk), .val (.int (Int32.ofNat (own_S ii).length)), .val (.int (x1 &&& (3 : Int32))), .val (.int (x3 &&& (255 : Int32))), .val (.ref b29), .unset, .unset, .unset, .unset] [(.ref b29)])) _
      refine XS.iconst X33.here hx rfl (hb hby at_107) ?_
      show Steps p.tables e below (T33.setTop (mkF m 108 #[.val (.int x0), .val (.int x1), .val (.int x2), .val (.int x3), .val (.int x4), .val (.int (x0 &&& (3 : Int32))), .val (.ref sg), .val (.ref wk), .val (.int (Int32.ofNat (own_S ii).length)), .val (.int (x1 &&& (3 : Int32))), .val (.int (x3 &&& (255 : Int32))), .val (.ref b29), .unset, .unset, .unset, .unset] [(.int 1), (.ref b29)])) _
      refine XS.aload X33.here hx rfl (hb hby at_108) rfl rfl ?_
      show Steps p.tables e below (T33.setTop (mkF m 110 #[.val (.int x0), .val (.int x1), .val (.int x2), .val (.int x3), .val (.int x4), .val (.int (x0 &&& (3 : Int32))), .val (.ref sg), .val (.ref wk), .val (.int (Int32.ofNat (own_S ii).length)), .val (.int (x1 &&& (3 : Int32))), .val (.int (x3 &&& (255 : Int32))), .val (.ref b29), .unset, .unset, .unset, .unset] [(.ref sg), (.int 1), (.ref b29)])) _
      refine XS.iload X33.here hx rfl (hb hby at_110) rfl ?_
      show Steps p.tables e below (T33.setTop (mkF m 112 #[.val (.int x0), .val (.int x1), .val (.int x2), .val (.int x3), .val (.int x4), .val (.int (x0 &&& (3 : Int32))), .val (.ref sg), .val (.ref wk), .val (.int (Int32.ofNat (own_S ii).length)), .val (.int (x1 &&& (3 : Int32))), .val (.int (x3 &&& (255 : Int32))), .val (.ref b29), .unset, .unset, .unset, .unset] [(.int (Int32.ofNat (own_S ii).length)), (.ref sg), (.int 1), (.ref b29)])) _
      refine XS.iconst X33.here hx rfl (hb hby at_112) ?_
      show Steps p.tables e below (T33.setTop (mkF m 113 #[.val (.int x0), .val (.int x1), .val (.int x2), .val (.int x3), .val (.int x4), .val (.int (x0 &&& (3 : Int32))), .val (.ref sg), .val (.ref wk), .val (.int (Int32.ofNat (own_S ii).length)), .val (.int (x1 &&& (3 : Int32))), .val (.int (x3 &&& (255 : Int32))), .val (.ref b29), .unset, .unset, .unset, .unset] [(.int 1), (.int (Int32.ofNat (own_S ii).length)), (.ref sg), (.int 1), (.ref b29)])) _
      refine st35 _ ?_
      show Steps p.tables e below (T35.setTop (mkF m 116 #[.val (.int x0), .val (.int x1), .val (.int x2), .val (.int x3), .val (.int x4), .val (.int (x0 &&& (3 : Int32))), .val (.ref sg), .val (.ref wk), .val (.int (Int32.ofNat (own_S ii).length)), .val (.int (x1 &&& (3 : Int32))), .val (.int (x3 &&& (255 : Int32))), .val (.ref b29), .unset, .unset, .unset, .unset] [(.int ((own_S ii).getD 1 0)), (.int 1), (.ref b29)])) _
      refine st37 _ ?_
      show Steps p.tables e below (T37.setTop (mkF m 117 #[.val (.int x0), .val (.int x1), .val (.int x2), .val (.int x3), .val (.int x4), .val (.int (x0 &&& (3 : Int32))), .val (.ref sg), .val (.ref wk), .val (.int (Int32.ofNat (own_S ii).length)), .val (.int (x1 &&& (3 : Int32))), .val (.int (x3 &&& (255 : Int32))), .val (.ref b29), .unset, .unset, .unset, .unset] [])) _
      refine XS.aload X37.here hx rfl (hb hby at_117) rfl rfl ?_
      show Steps p.tables e below (T37.setTop (mkF m 119 #[.val (.int x0), .val (.int x1), .val (.int x2), .val (.int x3), .val (.int x4), .val (.int (x0 &&& (3 : Int32))), .val (.ref sg), .val (.ref wk), .val (.int (Int32.ofNat (own_S ii).length)), .val (.int (x1 &&& (3 : Int32))), .val (.int (x3 &&& (255 : Int32))), .val (.ref b29), .unset, .unset, .unset, .unset] [(.ref b29)])) _
      refine XS.iconst X37.here hx rfl (hb hby at_119) ?_
      show Steps p.tables e below (T37.setTop (mkF m 120 #[.val (.int x0), .val (.int x1), .val (.int x2), .val (.int x3), .val (.int x4), .val (.int (x0 &&& (3 : Int32))), .val (.ref sg), .val (.ref wk), .val (.int (Int32.ofNat (own_S ii).length)), .val (.int (x1 &&& (3 : Int32))), .val (.int (x3 &&& (255 : Int32))), .val (.ref b29), .unset, .unset, .unset, .unset] [(.int 2), (.ref b29)])) _
      refine XS.aload X37.here hx rfl (hb hby at_120) rfl rfl ?_
      show Steps p.tables e below (T37.setTop (mkF m 122 #[.val (.int x0), .val (.int x1), .val (.int x2), .val (.int x3), .val (.int x4), .val (.int (x0 &&& (3 : Int32))), .val (.ref sg), .val (.ref wk), .val (.int (Int32.ofNat (own_S ii).length)), .val (.int (x1 &&& (3 : Int32))), .val (.int (x3 &&& (255 : Int32))), .val (.ref b29), .unset, .unset, .unset, .unset] [(.ref sg), (.int 2), (.ref b29)])) _
      refine XS.iload X37.here hx rfl (hb hby at_122) rfl ?_
      show Steps p.tables e below (T37.setTop (mkF m 124 #[.val (.int x0), .val (.int x1), .val (.int x2), .val (.int x3), .val (.int x4), .val (.int (x0 &&& (3 : Int32))), .val (.ref sg), .val (.ref wk), .val (.int (Int32.ofNat (own_S ii).length)), .val (.int (x1 &&& (3 : Int32))), .val (.int (x3 &&& (255 : Int32))), .val (.ref b29), .unset, .unset, .unset, .unset] [(.int (Int32.ofNat (own_S ii).length)), (.ref sg), (.int 2), (.ref b29)])) _
      refine XS.iconst X37.here hx rfl (hb hby at_124) ?_
      show Steps p.tables e below (T37.setTop (mkF m 125 #[.val (.int x0), .val (.int x1), .val (.int x2), .val (.int x3), .val (.int x4), .val (.int (x0 &&& (3 : Int32))), .val (.ref sg), .val (.ref wk), .val (.int (Int32.ofNat (own_S ii).length)), .val (.int (x1 &&& (3 : Int32))), .val (.int (x3 &&& (255 : Int32))), .val (.ref b29), .unset, .unset, .unset, .unset] [(.int 2), (.int (Int32.ofNat (own_S ii).length)), (.ref sg), (.int 2), (.ref b29)])) _
      refine st39 _ ?_
      show Steps p.tables e below (T39.setTop (mkF m 128 #[.val (.int x0), .val (.int x1), .val (.int x2), .val (.int x3), .val (.int x4), .val (.int (x0 &&& (3 : Int32))), .val (.ref sg), .val (.ref wk), .val (.int (Int32.ofNat (own_S ii).length)), .val (.int (x1 &&& (3 : Int32))), .val (.int (x3 &&& (255 : Int32))), .val (.ref b29), .unset, .unset, .unset, .unset] [(.int ((own_S ii).getD 2 0)), (.int 2), (.ref b29)])) _
      refine st41 _ ?_
      exact k)
    as_aux_lemma =>
      obtain ⟨_, _, ⟨T45, L45, k45, n45⟩, -, X45, ⟨Lc45, hQ45, l45, y45, z45⟩, st45⟩ := Jvm.LawKit.callS X43 hx (y := (⟨"com/example/millrace/millrace/definition/NodeKindOfElementPinLaw", "at", "(Ljava/lang/String;II)C"⟩ : MethodName)) hown (mvT hZ (hw _ (own_m (i := 25) rfl))) (mvT hZ (hw _ (own_m (i := 26) rfl))) (mvT hZ (hw _ (own_m (i := 27) rfl))) (mvT hZ (hw _ (own_m (i := 28) rfl))) (by decide) (backOf (W := 2) (own_at l Z a0 hw [] sg (Int32.ofNat (own_S ii).length) (3 : Int32) 3 bv kb (own_S ii) cz fm h41 n0 Z42 Es Fc Fv Vb (own_okS ii) (own_l4 ii) (S0.ext O.2) hcz (Sf.ext O.2) rfm rfl rfl (by decide)) hZ (hw _ (own_m (i := 28) rfl)) (hw _ (own_m (i := 27) rfl)) (by decide) (by decide)) (g := (mkF m 137 #[.val (.int x0), .val (.int x1), .val (.int x2), .val (.int x3), .val (.int x4), .val (.int (x0 &&& (3 : Int32))), .val (.ref sg), .val (.ref wk), .val (.int (Int32.ofNat (own_S ii).length)), .val (.int (x1 &&& (3 : Int32))), .val (.int (x3 &&& (255 : Int32))), .val (.ref b29), .unset, .unset, .unset, .unset] [(.int 3), (.int (Int32.ofNat (own_S ii).length)), (.ref sg), (.int 3), (.ref b29)])) rfl (by rw [hml]; rfl) (argsL := [(.ref sg), (.int (Int32.ofNat (own_S ii).length)), (.int 3)]) (rest := [(.int 3), (.ref b29)]) (lenOf own_pd6 rfl) rfl (by show 2 * 0 + _ ≤ _; exact Nat.le_of_eq rfl) (hb hby at_137) (fun _ _ => ⟨rfl, e41, (by decide : 3 + 0 ≤ _), (by decide : 66 + 0 ≤ _)⟩)
      dsimp only [Pt.U, Pt.locs, Pt.cells, Pt.slots] at X45 l45 y45 z45 st45 hQ45
      subst l45 y45 z45
      obtain ⟨rfl, N45q, e45⟩ := hQ45
      have N45 := Fr.app N43 N45q
      obtain ⟨cl46, Ar46, q46, S46, M46, H46, G46⟩ := id V_b29
      have hin46 : ¬ ((3 : Int32) < 0 ∨ cl46.slots.size ≤ ((3 : Int32)).toNatClampNeg) := inb_of S46 ⟨by decide, by decide⟩
      obtain ⟨T47, h47, X47, e47, W47, st47⟩ := stC X45 hx hZ e45 Ar46 (j := (3 : Int32)) hin46 (g := (mkF m 140 #[.val (.int x0), .val (.int x1), .val (.int x2), .val (.int x3), .val (.int x4), .val (.int (x0 &&& (3 : Int32))), .val (.ref sg), .val (.ref wk), .val (.int (Int32.ofNat (own_S ii).length)), .val (.int (x1 &&& (3 : Int32))), .val (.int (x3 &&& (255 : Int32))), .val (.ref b29), .unset, .unset, .unset, .unset] [(.int ((own_S ii).getD 3 0)), (.int 3), (.ref b29)])) rfl rfl (hb hby at_140)
      have O := O.wr W47 g_b29
      have Es := Es.wr W47
      have Fc := Fc.other W47 (Or.inl ne_sg_b29)
      have Fv := Fv.other W47 (Or.inl ne_sg_b29)
      have Vb := Vb.other W47 ne_bv_b29
      have hk := Nat.le_trans hk (Keep.of_wr W47).1
      have Z48 : n0 ≤ h47.size := Nat.le_trans Z42 (Keep.of_wr W47).1
      have V_b29 := Arv.set Ar46 q46 S46 M46 H46 G46 (fits_nar_char _) W47 3 rfl (Nat.le_of_ble_eq_true rfl)
      have V_b29 : Arv Z h47 b29 k29 .char (14 : Int32) [(.int ((own_S ii).getD 0 0)), (.int ((own_S ii).getD 1 0)), (.int ((own_S ii).getD 2 0)), (.int ((own_S ii).getD 3 0)), (.int 0), (.int 0), (.int 0), (.int 0), (.int 0), (.int 0), (.int 0), (.int 0), (.int 0), (.int 0)] (.int 0) := by have q := V_b29; simp only [(own_c8 (own_gd (own_okS ii) 3)), List.set] at q; exact q
      have N47 := Fr.snoc X47 N45 g_b29
      obtain ⟨_, _, ⟨T49, L49, k49, n49⟩, -, X49, ⟨Lc49, hQ49, l49, y49, z49⟩, st49⟩ := Jvm.LawKit.callS X47 hx (y := (⟨"com/example/millrace/millrace/definition/NodeKindOfElementPinLaw", "at", "(Ljava/lang/String;II)C"⟩ : MethodName)) hown (mvT hZ (hw _ (own_m (i := 25) rfl))) (mvT hZ (hw _ (own_m (i := 26) rfl))) (mvT hZ (hw _ (own_m (i := 27) rfl))) (mvT hZ (hw _ (own_m (i := 28) rfl))) (by decide) (backOf (W := 2) (own_at l Z a0 hw [] sg (Int32.ofNat (own_S ii).length) (4 : Int32) 4 bv kb (own_S ii) cz fm h47 n0 Z48 Es Fc Fv Vb (own_okS ii) (own_l4 ii) (S0.ext O.2) hcz (Sf.ext O.2) rfm rfl rfl (by decide)) hZ (hw _ (own_m (i := 28) rfl)) (hw _ (own_m (i := 27) rfl)) (by decide) (by decide)) (g := (mkF m 149 #[.val (.int x0), .val (.int x1), .val (.int x2), .val (.int x3), .val (.int x4), .val (.int (x0 &&& (3 : Int32))), .val (.ref sg), .val (.ref wk), .val (.int (Int32.ofNat (own_S ii).length)), .val (.int (x1 &&& (3 : Int32))), .val (.int (x3 &&& (255 : Int32))), .val (.ref b29), .unset, .unset, .unset, .unset] [(.int 4), (.int (Int32.ofNat (own_S ii).length)), (.ref sg), (.int 4), (.ref b29)])) rfl (by rw [hml]; rfl) (argsL := [(.ref sg), (.int (Int32.ofNat (own_S ii).length)), (.int 4)]) (rest := [(.int 4), (.ref b29)]) (lenOf own_pd6 rfl) rfl (by show 2 * 0 + _ ≤ _; exact Nat.le_of_eq rfl) (hb hby at_149) (fun _ _ => ⟨rfl, e47, (by decide : 3 + 0 ≤ _), (by decide : 66 + 0 ≤ _)⟩)
      dsimp only [Pt.U, Pt.locs, Pt.cells, Pt.slots] at X49 l49 y49 z49 st49 hQ49
      subst l49 y49 z49
      obtain ⟨rfl, N49q, e49⟩ := hQ49
      have N49 := Fr.app N47 N49q
      obtain ⟨cl50, Ar50, q50, S50, M50, H50, G50⟩ := id V_b29
      have hin50 : ¬ ((4 : Int32) < 0 ∨ cl50.slots.size ≤ ((4 : Int32)).toNatClampNeg) := inb_of S50 ⟨by decide, by decide⟩
      obtain ⟨T51, h51, X51, e51, W51, st51⟩ := stC X49 hx hZ e49 Ar50 (j := (4 : Int32)) hin50 (g := (mkF m 152 #[.val (.int x0), .val (.int x1), .val (.int x2), .val (.int x3), .val (.int x4), .val (.int (x0 &&& (3 : Int32))), .val (.ref sg), .val (.ref wk), .val (.int (Int32.ofNat (own_S ii).length)), .val (.int (x1 &&& (3 : Int32))), .val (.int (x3 &&& (255 : Int32))), .val (.ref b29), .unset, .unset, .unset, .unset] [(.int ((own_S ii).getD 4 0)), (.int 4), (.ref b29)])) rfl rfl (hb hby at_152)
      have O := O.wr W51 g_b29
      have Es := Es.wr W51
      have Fc := Fc.other W51 (Or.inl ne_sg_b29)
      have Fv := Fv.other W51 (Or.inl ne_sg_b29)
      have Vb := Vb.other W51 ne_bv_b29
      have hk := Nat.le_trans hk (Keep.of_wr W51).1
      have Z52 : n0 ≤ h51.size := Nat.le_trans Z48 (Keep.of_wr W51).1
      have V_b29 := Arv.set Ar50 q50 S50 M50 H50 G50 (fits_nar_char _) W51 4 rfl (Nat.le_of_ble_eq_true rfl)
      have V_b29 : Arv Z h51 b29 k29 .char (14 : Int32) [(.int ((own_S ii).getD 0 0)), (.int ((own_S ii).getD 1 0)), (.int ((own_S ii).getD 2 0)), (.int ((own_S ii).getD 3 0)), (.int ((own_S ii).getD 4 0)), (.int 0), (.int 0), (.int 0), (.int 0), (.int 0), (.int 0), (.int 0), (.int 0), (.int 0)] (.int 0) := by have q := V_b29; simp only [(own_c8 (own_gd (own_okS ii) 4)), List.set] at q; exact q
      have N51 := Fr.snoc X51 N49 g_b29
      obtain ⟨_, _, ⟨T53, L53, k53, n53⟩, -, X53, ⟨Lc53, hQ53, l53, y53, z53⟩, st53⟩ := Jvm.LawKit.callS X51 hx (y := (⟨"com/example/millrace/millrace/definition/NodeKindOfElementPinLaw", "at", "(Ljava/lang/String;II)C"⟩ : MethodName)) hown (mvT hZ (hw _ (own_m (i := 25) rfl))) (mvT hZ (hw _ (own_m (i := 26) rfl))) (mvT hZ (hw _ (own_m (i := 27) rfl))) (mvT hZ (hw _ (own_m (i := 28) rfl))) (by decide) (backOf (W := 2) (own_at l Z a0 hw [] sg (Int32.ofNat (own_S ii).length) (5 : Int32) 5 bv kb (own_S ii) cz fm h51 n0 Z52 Es Fc Fv Vb (own_okS ii) (own_l4 ii) (S0.ext O.2) hcz (Sf.ext O.2) rfm rfl rfl (by decide)) hZ (hw _ (own_m (i := 28) rfl)) (hw _ (own_m (i := 27) rfl)) (by decide) (by decide)) (g := (mkF m 161 #[.val (.int x0), .val (.int x1), .val (.int x2), .val (.int x3), .val (.int x4), .val (.int (x0 &&& (3 : Int32))), .val (.ref sg), .val (.ref wk), .val (.int (Int32.ofNat (own_S ii).length)), .val (.int (x1 &&& (3 : Int32))), .val (.int (x3 &&& (255 : Int32))), .val (.ref b29), .unset, .unset, .unset, .unset] [(.int 5), (.int (Int32.ofNat (own_S ii).length)), (.ref sg), (.int 5), (.ref b29)])) rfl (by rw [hml]; rfl) (argsL := [(.ref sg), (.int (Int32.ofNat (own_S ii).length)), (.int 5)]) (rest := [(.int 5), (.ref b29)]) (lenOf own_pd6 rfl) rfl (by show 2 * 0 + _ ≤ _; exact Nat.le_of_eq rfl) (hb hby at_161) (fun _ _ => ⟨rfl, e51, (by decide : 3 + 0 ≤ _), (by decide : 66 + 0 ≤ _)⟩)
      dsimp only [Pt.U, Pt.locs, Pt.cells, Pt.slots] at X53 l53 y53 z53 st53 hQ53
      subst l53 y53 z53
      obtain ⟨rfl, N53q, e53⟩ := hQ53
      have N53 := Fr.app N51 N53q
      obtain ⟨cl54, Ar54, q54, S54, M54, H54, G54⟩ := id V_b29
      have hin54 : ¬ ((5 : Int32) < 0 ∨ cl54.slots.size ≤ ((5 : Int32)).toNatClampNeg) := inb_of S54 ⟨by decide, by decide⟩
      obtain ⟨T55, h55, X55, e55, W55, st55⟩ := stC X53 hx hZ e53 Ar54 (j := (5 : Int32)) hin54 (g := (mkF m 164 #[.val (.int x0), .val (.int x1), .val (.int x2), .val (.int x3), .val (.int x4), .val (.int (x0 &&& (3 : Int32))), .val (.ref sg), .val (.ref wk), .val (.int (Int32.ofNat (own_S ii).length)), .val (.int (x1 &&& (3 : Int32))), .val (.int (x3 &&& (255 : Int32))), .val (.ref b29), .unset, .unset, .unset, .unset] [(.int ((own_S ii).getD 5 0)), (.int 5), (.ref b29)])) rfl rfl (hb hby at_164)
      have O := O.wr W55 g_b29
      have Es := Es.wr W55
      have Fc := Fc.other W55 (Or.inl ne_sg_b29)
      have Fv := Fv.other W55 (Or.inl ne_sg_b29)
      have Vb := Vb.other W55 ne_bv_b29
      have hk := Nat.le_trans hk (Keep.of_wr W55).1
      have Z56 : n0 ≤ h55.size := Nat.le_trans Z52 (Keep.of_wr W55).1
      have V_b29 := Arv.set Ar54 q54 S54 M54 H54 G54 (fits_nar_char _) W55 5 rfl (Nat.le_of_ble_eq_true rfl)
      have V_b29 : Arv Z h55 b29 k29 .char (14 : Int32) [(.int ((own_S ii).getD 0 0)), (.int ((own_S ii).getD 1 0)), (.int ((own_S ii).getD 2 0)), (.int ((own_S ii).getD 3 0)), (.int ((own_S ii).getD 4 0)), (.int ((own_S ii).getD 5 0)), (.int 0), (.int 0), (.int 0), (.int 0), (.int 0), (.int 0), (.int 0), (.int 0)] (.int 0) := by have q := V_b29; simp only [(own_c8 (own_gd (own_okS ii) 5)), List.set] at q; exact q
      have N55 := Fr.snoc X55 N53 g_b29
      obtain ⟨LL57, X57, N57⟩ : ∃ L, Stand p l e room_1 _ m #[(.int x0), (.int x1), (.int x2), (.int x3), (.int x4)] below meth c T55 L 3 66 ∧ Fr n0 L := ⟨_, X55, N55⟩
      have pre58 : ∀ t, Steps p.tables e below (T55.setTop (mkF m 165 #[.val (.int x0), .val (.int x1), .val (.int x2), .val (.int x3), .val (.int x4), .val (.int (x0 &&& (3 : Int32))), .val (.ref sg), .val (.ref wk), .val (.int (Int32.ofNat (own_S ii).length)), .val (.int (x1 &&& (3 : Int32))), .val (.int (x3 &&& (255 : Int32))), .val (.ref b29), .unset, .unset, .unset, .unset] [])) t → Steps p.tables e below (s₁.setTop (entryFrame m #[(.int x0), (.int x1), (.int x2), (.int x3), (.int x4)] maxLocals)) t := fun t k => pre44 t (by
        show Steps p.tables e below (T41.setTop (mkF m 129 #[.val (.int x0), .val (.int x1), .val (.int x2), .val (.int x3), .val (.int x4), .val (.int (x0 &&& (3 : Int32))), .val (.ref sg), .val (.ref wk), .val (.int (Int32.ofNat (own_S ii).length)), .val (.int (x1 &&& (3 : Int32))), .val (.int (x3 &&& (255 : Int32))), .val (.ref b29), .unset, .unset, .unset, .unset] [])) _
        refine XS.aload X43.here hx rfl (hb hby at_129) rfl rfl ?_
        show Steps p.tables e below (T41.setTop (mkF m 131 #[.val (.int x0), .val (.int x1), .val (.int x2), .val (.int x3), .val (.int x4), .val (.int (x0 &&& (3 : Int32))), .val (.ref sg), .val (.ref wk), .val (.int (Int32.ofNat (own_S ii).length)), .val (.int (x1 &&& (3 : Int32))), .val (.int (x3 &&& (255 : Int32))), .val (.ref b29), .unset, .unset, .unset, .unset] [(.ref b29)])) _
        refine XS.iconst X43.here hx rfl (hb hby at_131) ?_
        show Steps p.tables e below (T41.setTop (mkF m 132 #[.val (.int x0), .val (.int x1), .val (.int x2), .val (.int x3), .val (.int x4), .val (.int (x0 &&& (3 : Int32))), .val (.ref sg), .val (.ref wk), .val (.int (Int32.ofNat (own_S ii).length)), .val (.int (x1 &&& (3 : Int32))), .val (.int (x3 &&& (255 : Int32))), .val (.ref b29), .unset, .unset, .unset, .unset] [(.int 3), (.ref b29)])) _
        refine XS.aload X43.here hx rfl (hb hby at_132) rfl rfl ?_
        show Steps p.tables e below (T41.setTop (mkF m 134 #[.val (.int x0), .val (.int x1), .val (.int x2), .val (.int x3), .val (.int x4), .val (.int (x0 &&& (3 : Int32))), .val (.ref sg), .val (.ref wk), .val (.int (Int32.ofNat (own_S ii).length)), .val (.int (x1 &&& (3 : Int32))), .val (.int (x3 &&& (255 : Int32))), .val (.ref b29), .unset, .unset, .unset, .unset] [(.ref sg), (.int 3), (.ref b29)])) _
        refine XS.iload X43.here hx rfl (hb hby at_134) rfl ?_
        show Steps p.tables e below (T41.setTop (mkF m 136 #[.val (.int x0), .val (.int x1), .val (.int x2), .val (.int x3), .val (.int x4), .val (.int (x0 &&& (3 : Int32))), .val (.ref sg), .val (.ref wk), .val (.int (Int32.ofNat (own_S ii).length)), .val (.int (x1 &&& (3 : Int32))), .val (.int (x3 &&& (255 : Int32))), .val (.ref b29), .unset, .unset, .unset, .unset] [(.int (Int32.ofNat (own_S ii).length)), (.ref sg), (.int 3), (.ref b29)])) _
        refine XS.iconst X43.here hx rfl (hb hby at_136) ?_
        show Steps p.tables e below (T41.setTop (mkF m 137 #[.val (.int x0), .val (.int x1), .val (.int x2), .val (.int x3), .val (.int x4), .val (.int (x0 &&& (3 : Int32))), .val (.ref sg), .val (.ref wk), .val (.int (Int32.ofNat (own_S ii).length)), .val (.int (x1 &&& (3 : Int32))), .val (.int (x3 &&& (255 : Int32))), .val (.ref b29), .unset, .unset, .unset, .unset] [(.int 3), (.int (Int32.ofNat (own_S ii).length)), (.ref sg), (.int 3), (.ref b29)])) _
        refine st45 _ ?_
        show Steps p.tables e below (T45.setTop (mkF m 140 #[.val (.int x0), .val (.int x1), .val (.int x2), .val (.int x3), .val (.int x4), .val (.int (x0 &&& (3 : Int32))), .val (.ref sg), .val (.ref wk), .val (.int (Int32.ofNat (own_S ii).length)), .val (.int (x1 &&& (3 : Int32))), .val (.int (x3 &&& (255 : Int32))), .val (.ref b29), .unset, .unset, .unset, .unset] [(.int ((own_S ii).getD 3 0)), (.int 3), (.ref b29)])) _
        refine st47 _ ?_
        show Steps p.tables e below (T47.setTop (mkF m 141 #[.val (.int x0), .val (.int x1), .val (.int x2), .val (.int x3), .val (.int x4), .val (.int (x0 &&& (3 : Int32))), .val (.ref sg), .val (.ref wk), .val (.int (Int32.ofNat (own_S ii).length)), .val (.int (x1 &&& (3 : Int32))), .val (.int (x3 &&& (255 : Int32))), .val (.ref b29), .unset, .unset, .unset, .unset] [])) _
        refine XS.aload X47.here hx rfl (hb hby at_141) rfl rfl ?_
        show Steps p.tables e below (T47.setTop (mkF m 143 #[.val (.int x0), .val (.int x1), .val (.int x2), .val (.int x3), .val (.int x4), .val (.int (x0 &&& (3 : Int32))), .val (.ref sg), .val (.ref wk), .val (.int (Int32.ofNat (own_S ii).length)), .val (.int (x1 &&& (3 : Int32))), .val (.int (x3 &&& (255 : Int32))), .val (.ref b29), .unset, .unset, .unset, .unset] [(.ref b29)])) _
        refine XS.iconst X47.here hx rfl (hb hby at_143) ?_
        show Steps p.tables e below (T47.setTop (mkF m 144 #[.val (.int x0), .val (.int x1), .val (.int x2), .val (.int x3), .val (.int x4), .val (.int (x0 &&& (3 : Int32))), .val (.ref sg), .val (.ref wk), .val (.int (Int32.ofNat (own_S ii).length)), .val (.int (x1 &&& (3 : Int32))), .val (.int (x3 &&& (255 : Int32))), .val (.ref b29), .unset, .unset, .unset, .unset] [(.int 4), (.ref b29)])) _
        refine XS.aload X47.here hx rfl (hb hby at_144) rfl rfl ?_
        show Steps p.tables e below (T47.setTop (mkF m 146 #[.val (.int x0), .val (.int x1), .val (.int x2), .val (.int x3), .val (.int x4), .val (.int (x0 &&& (3 : Int32))), .val (.ref sg), .val (.ref wk), .val (.int (Int32.ofNat (own_S ii).length)), .val (.int (x1 &&& (3 : Int32))), .val (.int (x3 &&& (255 : Int32))), .val (.ref b29), .unset, .unset, .unset, .unset] [(.ref sg), (.int 4), (.ref b29)])) _
        refine XS.iload X47.here hx rfl (hb hby at_146) rfl ?_
        show Steps p.tables e below (T47.setTop (mkF m 148 #[.val (.int x0), .val (.int x1), .val (.int x2), .val (.int x3), .val (.int x4), .val (.int (x0 &&& (3 : Int32))), .val (.ref sg), .val (.ref wk), .val (.int (Int32.ofNat (own_S ii).length)), .val (.int (x1 &&& (3 : Int32))), .val (.int (x3 &&& (255 : Int32))), .val (.ref b29), .unset, .unset, .unset, .unset] [(.int (Int32.ofNat (own_S ii).length)), (.ref sg), (.int 4), (.ref b29)])) _
        refine XS.iconst X47.here hx rfl (hb hby at_148) ?_
        show Steps p.tables e below (T47.setTop (mkF m 149 #[.val (.int x0), .val (.int x1), .val (.int x2), .val (.int x3), .val (.int x4), .val (.int (x0 &&& (3 : Int32))), .val (.ref sg), .val (.ref wk), .val (.int (Int32.ofNat (own_S ii).length)), .val (.int (x1 &&& (3 : Int32))), .val (.int (x3 &&& (255 : Int32))), .val (.ref b29), .unset, .unset, .unset, .unset] [(.int 4), (.int (Int32.ofNat (own_S ii).length)), (.ref sg), (.int 4), (.ref b29)])) _
        refine st49 _ ?_
        show Steps p.tables e below (T49.setTop (mkF m 152 #[.val (.int x0), .val (.int x1), .val (.int x2), .val (.int x3), .val (.int x4), .val (.int (x0 &&& (3 : Int32))), .val (.ref sg), .val (.ref wk), .val (.int (Int32.ofNat (own_S ii).length)), .val (.int (x1 &&& (3 : Int32))), .val (.int (x3 &&& (255 : Int32))), .val (.ref b29), .unset, .unset, .unset, .unset] [(.int ((own_S ii).getD 4 0)), (.int 4), (.ref b29)])) _
        refine st51 _ ?_
        show Steps p.tables e below (T51.setTop (mkF m 153 #[.val (.int x0), .val (.int x1), .val (.int x2), .val (.int x3), .val (.int x4), .val (.int (x0 &&& (3 : Int32))), .val (.ref sg), .val (.ref wk), .val (.int (Int32.ofNat (own_S ii).length)), .val (.int (x1 &&& (3 : Int32))), .val (.int (x3 &&& (255 : Int32))), .val (.ref b29), .unset, .unset, .unset, .unset] [])) _
        refine XS.aload X51.here hx rfl (hb hby at_153) rfl rfl ?_
        show Steps p.tables e below (T51.setTop (mkF m 155 #[.val (.int x0), .val (.int x1), .val (.int x2), .val (.int x3), .val (.int x4), .val (.int (x0 &&& (3 : Int32))), .val (.ref sg), .val (.ref wk), .val (.int (Int32.ofNat (own_S ii).length)), .val (.int (x1 &&& (3 : Int32))), .val (.int (x3 &&& (255 : Int32))), .val (.ref b29), .unset, .unset, .unset, .unset] [(.ref b29)])) _
        refine XS.iconst X51.here hx rfl (hb hby at_155) ?_
        show Steps p.tables e below (T51.setTop (mkF m 156 #[.val (.int x0), .val (.int x1), .val (.int x2), .val (.int x3), .val (.int x4), .val (.int (x0 &&& (3 : Int32))), .val (.ref sg), .val (.ref wk), .val (.int (Int32.ofNat (own_S ii).length)), .val (.int (x1 &&& (3 : Int32))), .val (.int (x3 &&& (255 : Int32))), .val (.ref b29), .unset, .unset, .unset, .unset] [(.int 5), (.ref b29)])) _
        refine XS.aload X51.here hx rfl (hb hby at_156) rfl rfl ?_
        show Steps p.tables e below (T51.setTop (mkF m 158 #[.val (.int x0), .val (.int x1), .val (.int x2), .val (.int x3), .val (.int x4), .val (.int (x0 &&& (3 : Int32))), .val (.ref sg), .val (.ref wk), .val (.int (Int32.ofNat (own_S ii).length)), .val (.int (x1 &&& (3 : Int32))), .val (.int (x3 &&& (255 : Int32))), .val (.ref b29), .unset, .unset, .unset, .unset] [(.ref sg), (.int 5), (.ref b29)])) _
        refine XS.iload X51.here hx rfl (hb hby at_158) rfl ?_
        show Steps p.tables e below (T51.setTop (mkF m 160 #[.val (.int x0), .val (.int x1), .val (.int x2), .val (.int x3), .val (.int x4), .val (.int (x0 &&& (3 : Int32))), .val (.ref sg), .val (.ref wk), .val (.int (Int32.ofNat (own_S ii).length)), .val (.int (x1 &&& (3 : Int32))), .val (.int (x3 &&& (255 : Int32))), .val (.ref b29), .unset, .unset, .unset, .unset] [(.int (Int32.ofNat (own_S ii).length)), (.ref sg), (.int 5), (.ref b29)])) _
        refine XS.iconst X51.here hx rfl (hb hby at_160) ?_
        show Steps p.tables e below (T51.setTop (mkF m 161 #[.val (.int x0), .val (.int x1), .val (.int x2), .val (.int x3), .val (.int x4), .val (.int (x0 &&& (3 : Int32))), .val (.ref sg), .val (.ref wk), .val (.int (Int32.ofNat (own_S ii).length)), .val (.int (x1 &&& (3 : Int32))), .val (.int (x3 &&& (255 : Int32))), .val (.ref b29), .unset, .unset, .unset, .unset] [(.int 5), (.int (Int32.ofNat (own_S ii).length)), (.ref sg), (.int 5), (.ref b29)])) _
        refine st53 _ ?_
        show Steps p.tables e below (T53.setTop (mkF m 164 #[.val (.int x0), .val (.int x1), .val (.int x2), .val (.int x3), .val (.int x4), .val (.int (x0 &&& (3 : Int32))), .val (.ref sg), .val (.ref wk), .val (.int (Int32.ofNat (own_S ii).length)), .val (.int (x1 &&& (3 : Int32))), .val (.int (x3 &&& (255 : Int32))), .val (.ref b29), .unset, .unset, .unset, .unset] [(.int ((own_S ii).getD 5 0)), (.int 5), (.ref b29)])) _
        refine st55 _ ?_
        exact k)
      as_aux_lemma =>
        obtain ⟨_, _, ⟨T59, L59, k59, n59⟩, -, X59, ⟨Lc59, hQ59, l59, y59, z59⟩, st59⟩ := Jvm.LawKit.callS X57 hx (y := (⟨"com/example/millrace/millrace/definition/NodeKindOfElementPinLaw", "at", "(Ljava/lang/String;II)C"⟩ : MethodName)) hown (mvT hZ (hw _ (own_m (i := 25) rfl))) (mvT hZ (hw _ (own_m (i := 26) rfl))) (mvT hZ (hw _ (own_m (i := 27) rfl))) (mvT hZ (hw _ (own_m (i := 28) rfl))) (by decide) (backOf (W := 2) (own_at l Z a0 hw [] sg (Int32.ofNat (own_S ii).length) (6 : Int32) 6 bv kb (own_S ii) cz fm h55 n0 Z56 Es Fc Fv Vb (own_okS ii) (own_l4 ii) (S0.ext O.2) hcz (Sf.ext O.2) rfm rfl rfl (by decide)) hZ (hw _ (own_m (i := 28) rfl)) (hw _ (own_m (i := 27) rfl)) (by decide) (by decide)) (g := (mkF m 175 #[.val (.int x0), .val (.int x1), .val (.int x2), .val (.int x3), .val (.int x4), .val (.int (x0 &&& (3 : Int32))), .val (.ref sg), .val (.ref wk), .val (.int (Int32.ofNat (own_S ii).length)), .val (.int (x1 &&& (3 : Int32))), .val (.int (x3 &&& (255 : Int32))), .val (.ref b29), .unset, .unset, .unset, .unset] [(.int 6), (.int (Int32.ofNat (own_S ii).length)), (.ref sg), (.int 6), (.ref b29)])) rfl (by rw [hml]; rfl) (argsL := [(.ref sg), (.int (Int32.ofNat (own_S ii).length)), (.int 6)]) (rest := [(.int 6), (.ref b29)]) (lenOf own_pd6 rfl) rfl (by show 2 * 0 + _ ≤ _; exact Nat.le_of_eq rfl) (hb hby at_175) (fun _ _ => ⟨rfl, e55, (by decide : 3 + 0 ≤ _), (by decide : 66 + 0 ≤ _)⟩)
        dsimp only [Pt.U, Pt.locs, Pt.cells, Pt.slots] at X59 l59 y59 z59 st59 hQ59
        subst l59 y59 z59
        obtain ⟨rfl, N59q, e59⟩ := hQ59
        have N59 := Fr.app N57 N59q
        obtain ⟨cl60, Ar60, q60, S60, M60, H60, G60⟩ := id V_b29
        have hin60 : ¬ ((6 : Int32) < 0 ∨ cl60.slots.size ≤ ((6 : Int32)).toNatClampNeg) := inb_of S60 ⟨by decide, by decide⟩
        obtain ⟨T61, h61, X61, e61, W61, st61⟩ := stC X59 hx hZ e59 Ar60 (j := (6 : Int32)) hin60 (g := (mkF m 178 #[.val (.int x0), .val (.int x1), .val (.int x2), .val (.int x3), .val (.int x4), .val (.int (x0 &&& (3 : Int32))), .val (.ref sg), .val (.ref wk), .val (.int (Int32.ofNat (own_S ii).length)), .val (.int (x1 &&& (3 : Int32))), .val (.int (x3 &&& (255 : Int32))), .val (.ref b29), .unset, .unset, .unset, .unset] [(.int ((own_S ii).getD 6 0)), (.int 6), (.ref b29)])) rfl rfl (hb hby at_178)
        have O := O.wr W61 g_b29
        have Es := Es.wr W61
        have Fc := Fc.other W61 (Or.inl ne_sg_b29)
        have Fv := Fv.other W61 (Or.inl ne_sg_b29)
        have Vb := Vb.other W61 ne_bv_b29
        have hk := Nat.le_trans hk (Keep.of_wr W61).1
        have Z62 : n0 ≤ h61.size := Nat.le_trans Z56 (Keep.of_wr W61).1
        have V_b29 := Arv.set Ar60 q60 S60 M60 H60 G60 (fits_nar_char _) W61 6 rfl (Nat.le_of_ble_eq_true rfl)
        have V_b29 : Arv Z h61 b29 k29 .char (14 : Int32) [(.int ((own_S ii).getD 0 0)), (.int ((own_S ii).getD 1 0)), (.int ((own_S ii).getD 2 0)), (.int ((own_S ii).getD 3 0)), (.int ((own_S ii).getD 4 0)), (.int ((own_S ii).getD 5 0)), (.int ((own_S ii).getD 6 0)), (.int 0), (.int 0), (.int 0), (.int 0), (.int 0), (.int 0), (.int 0)] (.int 0) := by have q := V_b29; simp only [(own_c8 (own_gd (own_okS ii) 6)), List.set] at q; exact q
        have N61 := Fr.snoc X61 N59 g_b29
        obtain ⟨_, _, ⟨T63, L63, k63, n63⟩, -, X63, ⟨Lc63, hQ63, l63, y63, z63⟩, st63⟩ := Jvm.LawKit.callS X61 hx (y := (⟨"com/example/millrace/millrace/definition/NodeKindOfElementPinLaw", "at", "(Ljava/lang/String;II)C"⟩ : MethodName)) hown (mvT hZ (hw _ (own_m (i := 25) rfl))) (mvT hZ (hw _ (own_m (i := 26) rfl))) (mvT hZ (hw _ (own_m (i := 27) rfl))) (mvT hZ (hw _ (own_m (i := 28) rfl))) (by decide) (backOf (W := 2) (own_at l Z a0 hw [] sg (Int32.ofNat (own_S ii).length) (7 : Int32) 7 bv kb (own_S ii) cz fm h61 n0 Z62 Es Fc Fv Vb (own_okS ii) (own_l4 ii) (S0.ext O.2) hcz (Sf.ext O.2) rfm rfl rfl (by decide)) hZ (hw _ (own_m (i := 28) rfl)) (hw _ (own_m (i := 27) rfl)) (by decide) (by decide)) (g := (mkF m 189 #[.val (.int x0), .val (.int x1), .val (.int x2), .val (.int x3), .val (.int x4), .val (.int (x0 &&& (3 : Int32))), .val (.ref sg), .val (.ref wk), .val (.int (Int32.ofNat (own_S ii).length)), .val (.int (x1 &&& (3 : Int32))), .val (.int (x3 &&& (255 : Int32))), .val (.ref b29), .unset, .unset, .unset, .unset] [(.int 7), (.int (Int32.ofNat (own_S ii).length)), (.ref sg), (.int 7), (.ref b29)])) rfl (by rw [hml]; rfl) (argsL := [(.ref sg), (.int (Int32.ofNat (own_S ii).length)), (.int 7)]) (rest := [(.int 7), (.ref b29)]) (lenOf own_pd6 rfl) rfl (by show 2 * 0 + _ ≤ _; exact Nat.le_of_eq rfl) (hb hby at_189) (fun _ _ => ⟨rfl, e61, (by decide : 3 + 0 ≤ _), (by decide : 66 + 0 ≤ _)⟩)
        dsimp only [Pt.U, Pt.locs, Pt.cells, Pt.slots] at X63 l63 y63 z63 st63 hQ63
        subst l63 y63 z63
        obtain ⟨rfl, N63q, e63⟩ := hQ63
        have N63 := Fr.app N61 N63q
        obtain ⟨cl64, Ar64, q64, S64, M64, H64, G64⟩ := id V_b29
        have hin64 : ¬ ((7 : Int32) < 0 ∨ cl64.slots.size ≤ ((7 : Int32)).toNatClampNeg) := inb_of S64 ⟨by decide, by decide⟩
        obtain ⟨T65, h65, X65, e65, W65, st65⟩ := stC X63 hx hZ e63 Ar64 (j := (7 : Int32)) hin64 (g := (mkF m 192 #[.val (.int x0), .val (.int x1), .val (.int x2), .val (.int x3), .val (.int x4), .val (.int (x0 &&& (3 : Int32))), .val (.ref sg), .val (.ref wk), .val (.int (Int32.ofNat (own_S ii).length)), .val (.int (x1 &&& (3 : Int32))), .val (.int (x3 &&& (255 : Int32))), .val (.ref b29), .unset, .unset, .unset, .unset] [(.int ((own_S ii).getD 7 0)), (.int 7), (.ref b29)])) rfl rfl (hb hby at_192)
        have O := O.wr W65 g_b29
        have Es := Es.wr W65
        have Fc := Fc.other W65 (Or.inl ne_sg_b29)
        have Fv := Fv.other W65 (Or.inl ne_sg_b29)
        have Vb := Vb.other W65 ne_bv_b29
        have hk := Nat.le_trans hk (Keep.of_wr W65).1
        have Z66 : n0 ≤ h65.size := Nat.le_trans Z62 (Keep.of_wr W65).1
        have V_b29 := Arv.set Ar64 q64 S64 M64 H64 G64 (fits_nar_char _) W65 7 rfl (Nat.le_of_ble_eq_true rfl)
        have V_b29 : Arv Z h65 b29 k29 .char (14 : Int32) [(.int ((own_S ii).getD 0 0)), (.int ((own_S ii).getD 1 0)), (.int ((own_S ii).getD 2 0)), (.int ((own_S ii).getD 3 0)), (.int ((own_S ii).getD 4 0)), (.int ((own_S ii).getD 5 0)), (.int ((own_S ii).getD 6 0)), (.int ((own_S ii).getD 7 0)), (.int 0), (.int 0), (.int 0), (.int 0), (.int 0), (.int 0)] (.int 0) := by have q := V_b29; simp only [(own_c8 (own_gd (own_okS ii) 7)), List.set] at q; exact q
        have N65 := Fr.snoc X65 N63 g_b29
        obtain ⟨_, _, ⟨T67, L67, k67, n67⟩, -, X67, ⟨Lc67, hQ67, l67, y67, z67⟩, st67⟩ := Jvm.LawKit.callS X65 hx (y := (⟨"com/example/millrace/millrace/definition/NodeKindOfElementPinLaw", "at", "(Ljava/lang/String;II)C"⟩ : MethodName)) hown (mvT hZ (hw _ (own_m (i := 25) rfl))) (mvT hZ (hw _ (own_m (i := 26) rfl))) (mvT hZ (hw _ (own_m (i := 27) rfl))) (mvT hZ (hw _ (own_m (i := 28) rfl))) (by decide) (backOf (W := 2) (own_at l Z a0 hw [] sg (Int32.ofNat (own_S ii).length) (8 : Int32) 8 bv kb (own_S ii) cz fm h65 n0 Z66 Es Fc Fv Vb (own_okS ii) (own_l4 ii) (S0.ext O.2) hcz (Sf.ext O.2) rfm rfl rfl (by decide)) hZ (hw _ (own_m (i := 28) rfl)) (hw _ (own_m (i := 27) rfl)) (by decide) (by decide)) (g := (mkF m 203 #[.val (.int x0), .val (.int x1), .val (.int x2), .val (.int x3), .val (.int x4), .val (.int (x0 &&& (3 : Int32))), .val (.ref sg), .val (.ref wk), .val (.int (Int32.ofNat (own_S ii).length)), .val (.int (x1 &&& (3 : Int32))), .val (.int (x3 &&& (255 : Int32))), .val (.ref b29), .unset, .unset, .unset, .unset] [(.int 8), (.int (Int32.ofNat (own_S ii).length)), (.ref sg), (.int 8), (.ref b29)])) rfl (by rw [hml]; rfl) (argsL := [(.ref sg), (.int (Int32.ofNat (own_S ii).length)), (.int 8)]) (rest := [(.int 8), (.ref b29)]) (lenOf own_pd6 rfl) rfl (by show 2 * 0 + _ ≤ _; exact Nat.le_of_eq rfl) (hb hby at_203) (fun _ _ => ⟨rfl, e65, (by decide : 3 + 0 ≤ _), (by decide : 66 + 0 ≤ _)⟩)
        dsimp only [Pt.U, Pt.locs, Pt.cells, Pt.slots] at X67 l67 y67 z67 st67 hQ67
        subst l67 y67 z67
        obtain ⟨rfl, N67q, e67⟩ := hQ67
        have N67 := Fr.app N65 N67q
        obtain ⟨cl68, Ar68, q68, S68, M68, H68, G68⟩ := id V_b29
        have hin68 : ¬ ((8 : Int32) < 0 ∨ cl68.slots.size ≤ ((8 : Int32)).toNatClampNeg) := inb_of S68 ⟨by decide, by decide⟩
        obtain ⟨T69, h69, X69, e69, W69, st69⟩ := stC X67 hx hZ e67 Ar68 (j := (8 : Int32)) hin68 (g := (mkF m 206 #[.val (.int x0), .val (.int x1), .val (.int x2), .val (.int x3), .val (.int x4), .val (.int (x0 &&& (3 : Int32))), .val (.ref sg), .val (.ref wk), .val (.int (Int32.ofNat (own_S ii).length)), .val (.int (x1 &&& (3 : Int32))), .val (.int (x3 &&& (255 : Int32))), .val (.ref b29), .unset, .unset, .unset, .unset] [(.int ((own_S ii).getD 8 0)), (.int 8), (.ref b29)])) rfl rfl (hb hby at_206)
        have O := O.wr W69 g_b29
        have Es := Es.wr W69
        have Fc := Fc.other W69 (Or.inl ne_sg_b29)
        have Fv := Fv.other W69 (Or.inl ne_sg_b29)
        have Vb := Vb.other W69 ne_bv_b29
        have hk := Nat.le_trans hk (Keep.of_wr W69).1
        have Z70 : n0 ≤ h69.size := Nat.le_trans Z66 (Keep.of_wr W69).1
        have V_b29 := Arv.set Ar68 q68 S68 M68 H68 G68 (fits_nar_char _) W69 8 rfl (Nat.le_of_ble_eq_true rfl)
        have V_b29 : Arv Z h69 b29 k29 .char (14 : Int32) [(.int ((own_S ii).getD 0 0)), (.int ((own_S ii).getD 1 0)), (.int ((own_S ii).getD 2 0)), (.int ((own_S ii).getD 3 0)), (.int ((own_S ii).getD 4 0)), (.int ((own_S ii).getD 5 0)), (.int ((own_S ii).getD 6 0)), (.int ((own_S ii).getD 7 0)), (.int ((own_S ii).getD 8 0)), (.int 0), (.int 0), (.int 0), (.int 0), (.int 0)] (.int 0) := by have q := V_b29; simp only [(own_c8 (own_gd (own_okS ii) 8)), List.set] at q; exact q
        have N69 := Fr.snoc X69 N67 g_b29
        obtain ⟨LL71, X71, N71⟩ : ∃ L, Stand p l e room_1 _ m #[(.int x0), (.int x1), (.int x2), (.int x3), (.int x4)] below meth c T69 L 3 66 ∧ Fr n0 L := ⟨_, X69, N69⟩
        have pre72 : ∀ t, Steps p.tables e below (T69.setTop (mkF m 207 #[.val (.int x0), .val (.int x1), .val (.int x2), .val (.int x3), .val (.int x4), .val (.int (x0 &&& (3 : Int32))), .val (.ref sg), .val (.ref wk), .val (.int (Int32.ofNat (own_S ii).length)), .val (.int (x1 &&& (3 : Int32))), .val (.int (x3 &&& (255 : Int32))), .val (.ref b29), .unset, .unset, .unset, .unset] [])) t → Steps p.tables e below (s₁.setTop (entryFrame m #[(.int x0), (.int x1), (.int x2), (.int x3), (.int x4)] maxLocals)) t := fun t k => pre58 t (by
          show Steps p.tables e below (T55.setTop (mkF m 165 #[.val (.int x0), .val (.int x1), .val (.int x2), .val (.int x3), .val (.int x4), .val (.int (x0 &&& (3 : Int32))), .val (.ref sg), .val (.ref wk), .val (.int (Int32.ofNat (own_S ii).length)), .val (.int (x1 &&& (3 : Int32))), .val (.int (x3 &&& (255 : Int32))), .val (.ref b29), .unset, .unset, .unset, .unset] [])) _
          refine XS.aload X57.here hx rfl (hb hby at_165) rfl rfl ?_
          show Steps p.tables e below (T55.setTop (mkF m 167 #[.val (.int x0), .val (.int x1), .val (.int x2), .val (.int x3), .val (.int x4), .val (.int (x0 &&& (3 : Int32))), .val (.ref sg), .val (.ref wk), .val (.int (Int32.ofNat (own_S ii).length)), .val (.int (x1 &&& (3 : Int32))), .val (.int (x3 &&& (255 : Int32))), .val (.ref b29), .unset, .unset, .unset, .unset] [(.ref b29)])) _
          refine XS.bipush X57.here hx rfl (hb hby at_167) ?_
          show Steps p.tables e below (T55.setTop (mkF m 169 #[.val (.int x0), .val (.int x1), .val (.int x2), .val (.int x3), .val (.int x4), .val (.int (x0 &&& (3 : Int32))), .val (.ref sg), .val (.ref wk), .val (.int (Int32.ofNat (own_S ii).length)), .val (.int (x1 &&& (3 : Int32))), .val (.int (x3 &&& (255 : Int32))), .val (.ref b29), .unset, .unset, .unset, .unset] [(.int 6), (.ref b29)])) _
          refine XS.aload X57.here hx rfl (hb hby at_169) rfl rfl ?_
          show Steps p.tables e below (T55.setTop (mkF m 171 #[.val (.int x0), .val (.int x1), .val (.int x2), .val (.int x3), .val (.int x4), .val (.int (x0 &&& (3 : Int32))), .val (.ref sg), .val (.ref wk), .val (.int (Int32.ofNat (own_S ii).length)), .val (.int (x1 &&& (3 : Int32))), .val (.int (x3 &&& (255 : Int32))), .val (.ref b29), .unset, .unset, .unset, .unset] [(.ref sg), (.int 6), (.ref b29)])) _
          refine XS.iload X57.here hx rfl (hb hby at_171) rfl ?_
          show Steps p.tables e below (T55.setTop (mkF m 173 #[.val (.int x0), .val (.int x1), .val (.int x2), .val (.int x3), .val (.int x4), .val (.int (x0 &&& (3 : Int32))), .val (.ref sg), .val (.ref wk), .val (.int (Int32.ofNat (own_S ii).length)), .val (.int (x1 &&& (3 : Int32))), .val (.int (x3 &&& (255 : Int32))), .val (.ref b29), .unset, .unset, .unset, .unset] [(.int (Int32.ofNat (own_S ii).length)), (.ref sg), (.int 6), (.ref b29)])) _
          refine XS.bipush X57.here hx rfl (hb hby at_173) ?_
          show Steps p.tables e below (T55.setTop (mkF m 175 #[.val (.int x0), .val (.int x1), .val (.int x2), .val (.int x3), .val (.int x4), .val (.int (x0 &&& (3 : Int32))), .val (.ref sg), .val (.ref wk), .val (.int (Int32.ofNat (own_S ii).length)), .val (.int (x1 &&& (3 : Int32))), .val (.int (x3 &&& (255 : Int32))), .val (.ref b29), .unset, .unset, .unset, .unset] [(.int 6), (.int (Int32.ofNat (own_S ii).length)), (.ref sg), (.int 6), (.ref b29)])) _
          refine st59 _ ?_
          show Steps p.tables e below (T59.setTop (mkF m 178 #[.val (.int x0), .val (.int x1), .val (.int x2), .val (.int x3), .val (.int x4), .val (.int (x0 &&& (3 : Int32))), .val (.ref sg), .val (.ref wk), .val (.int (Int32.ofNat (own_S ii).length)), .val (.int (x1 &&& (3 : Int32))), .val (.int (x3 &&& (255 : Int32))), .val (.ref b29), .unset, .unset, .unset, .unset] [(.int ((own_S ii).getD 6 0)), (.int 6), (.ref b29)])) _
          refine st61 _ ?_
          show Steps p.tables e below (T61.setTop (mkF m 179 #[.val (.int x0), .val (.int x1), .val (.int x2), .val (.int x3), .val (.int x4), .val (.int (x0 &&& (3 : Int32))), .val (.ref sg), .val (.ref wk), .val (.int (Int32.ofNat (own_S ii).length)), .val (.int (x1 &&& (3 : Int32))), .val (.int (x3 &&& (255 : Int32))), .val (.ref b29), .unset, .unset, .unset, .unset] [])) _
          refine XS.aload X61.here hx rfl (hb hby at_179) rfl rfl ?_
          show Steps p.tables e below (T61.setTop (mkF m 181 #[.val (.int x0), .val (.int x1), .val (.int x2), .val (.int x3), .val (.int x4), .val (.int (x0 &&& (3 : Int32))), .val (.ref sg), .val (.ref wk), .val (.int (Int32.ofNat (own_S ii).length)), .val (.int (x1 &&& (3 : Int32))), .val (.int (x3 &&& (255 : Int32))), .val (.ref b29), .unset, .unset, .unset, .unset] [(.ref b29)])) _
          refine XS.bipush X61.here hx rfl (hb hby at_181) ?_
          show Steps p.tables e below (T61.setTop (mkF m 183 #[.val (.int x0), .val (.int x1), .val (.int x2), .val (.int x3), .val (.int x4), .val (.int (x0 &&& (3 : Int32))), .val (.ref sg), .val (.ref wk), .val (.int (Int32.ofNat (own_S ii).length)), .val (.int (x1 &&& (3 : Int32))), .val (.int (x3 &&& (255 : Int32))), .val (.ref b29), .unset, .unset, .unset, .unset] [(.int 7), (.ref b29)])) _
          refine XS.aload X61.here hx rfl (hb hby at_183) rfl rfl ?_
          show Steps p.tables e below (T61.setTop (mkF m 185 #[.val (.int x0), .val (.int x1), .val (.int x2), .val (.int x3), .val (.int x4), .val (.int (x0 &&& (3 : Int32))), .val (.ref sg), .val (.ref wk), .val (.int (Int32.ofNat (own_S ii).length)), .val (.int (x1 &&& (3 : Int32))), .val (.int (x3 &&& (255 : Int32))), .val (.ref b29), .unset, .unset, .unset, .unset] [(.ref sg), (.int 7), (.ref b29)])) _
          refine XS.iload X61.here hx rfl (hb hby at_185) rfl ?_
          show Steps p.tables e below (T61.setTop (mkF m 187 #[.val (.int x0), .val (.int x1), .val (.int x2), .val (.int x3), .val (.int x4), .val (.int (x0 &&& (3 : Int32))), .val (.ref sg), .val (.ref wk), .val (.int (Int32.ofNat (own_S ii).length)), .val (.int (x1 &&& (3 : Int32))), .val (.int (x3 &&& (255 : Int32))), .val (.ref b29), .unset, .unset, .unset, .unset] [(.int (Int32.ofNat (own_S ii).length)), (.ref sg), (.int 7), (.ref b29)])) _
          refine XS.bipush X61.here hx rfl (hb hby at_187) ?_
          show Steps p.tables e below (T61.setTop (mkF m 189 #[.val (.int x0), .val (.int x1), .val (.int x2), .val (.int x3), .val (.int x4), .val (.int (x0 &&& (3 : Int32))), .val (.ref sg), .val (.ref wk), .val (.int (Int32.ofNat (own_S ii).length)), .val (.int (x1 &&& (3 : Int32))), .val (.int (x3 &&& (255 : Int32))), .val (.ref b29), .unset, .unset, .unset, .unset] [(.int 7), (.int (Int32.ofNat (own_S ii).length)), (.ref sg), (.int 7), (.ref b29)])) _
          refine st63 _ ?_
          show Steps p.tables e below (T63.setTop (mkF m 192 #[.val (.int x0), .val (.int x1), .val (.int x2), .val (.int x3), .val (.int x4), .val (.int (x0 &&& (3 : Int32))), .val (.ref sg), .val (.ref wk), .val (.int (Int32.ofNat (own_S ii).length)), .val (.int (x1 &&& (3 : Int32))), .val (.int (x3 &&& (255 : Int32))), .val (.ref b29), .unset, .unset, .unset, .unset] [(.int ((own_S ii).getD 7 0)), (.int 7), (.ref b29)])) _
          refine st65 _ ?_
          show Steps p.tables e below (T65.setTop (mkF m 193 #[.val (.int x0), .val (.int x1), .val (.int x2), .val (.int x3), .val (.int x4), .val (.int (x0 &&& (3 : Int32))), .val (.ref sg), .val (.ref wk), .val (.int (Int32.ofNat (own_S ii).length)), .val (.int (x1 &&& (3 : Int32))), .val (.int (x3 &&& (255 : Int32))), .val (.ref b29), .unset, .unset, .unset, .unset] [])) _
          refine XS.aload X65.here hx rfl (hb hby at_193) rfl rfl ?_
          show Steps p.tables e below (T65.setTop (mkF m 195 #[.val (.int x0), .val (.int x1), .val (.int x2), .val (.int x3), .val (.int x4), .val (.int (x0 &&& (3 : Int32))), .val (.ref sg), .val (.ref wk), .val (.int (Int32.ofNat (own_S ii).length)), .val (.int (x1 &&& (3 : Int32))), .val (.int (x3 &&& (255 : Int32))), .val (.ref b29), .unset, .unset, .unset, .unset] [(.ref b29)])) _
          refine XS.bipush X65.here hx rfl (hb hby at_195) ?_
          show Steps p.tables e below (T65.setTop (mkF m 197 #[.val (.int x0), .val (.int x1), .val (.int x2), .val (.int x3), .val (.int x4), .val (.int (x0 &&& (3 : Int32))), .val (.ref sg), .val (.ref wk), .val (.int (Int32.ofNat (own_S ii).length)), .val (.int (x1 &&& (3 : Int32))), .val (.int (x3 &&& (255 : Int32))), .val (.ref b29), .unset, .unset, .unset, .unset] [(.int 8), (.ref b29)])) _
          refine XS.aload X65.here hx rfl (hb hby at_197) rfl rfl ?_
          show Steps p.tables e below (T65.setTop (mkF m 199 #[.val (.int x0), .val (.int x1), .val (.int x2), .val (.int x3), .val (.int x4), .val (.int (x0 &&& (3 : Int32))), .val (.ref sg), .val (.ref wk), .val (.int (Int32.ofNat (own_S ii).length)), .val (.int (x1 &&& (3 : Int32))), .val (.int (x3 &&& (255 : Int32))), .val (.ref b29), .unset, .unset, .unset, .unset] [(.ref sg), (.int 8), (.ref b29)])) _
          refine XS.iload X65.here hx rfl (hb hby at_199) rfl ?_
          show Steps p.tables e below (T65.setTop (mkF m 201 #[.val (.int x0), .val (.int x1), .val (.int x2), .val (.int x3), .val (.int x4), .val (.int (x0 &&& (3 : Int32))), .val (.ref sg), .val (.ref wk), .val (.int (Int32.ofNat (own_S ii).length)), .val (.int (x1 &&& (3 : Int32))), .val (.int (x3 &&& (255 : Int32))), .val (.ref b29), .unset, .unset, .unset, .unset] [(.int (Int32.ofNat (own_S ii).length)), (.ref sg), (.int 8), (.ref b29)])) _
          refine XS.bipush X65.here hx rfl (hb hby at_201) ?_
          show Steps p.tables e below (T65.setTop (mkF m 203 #[.val (.int x0), .val (.int x1), .val (.int x2), .val (.int x3), .val (.int x4), .val (.int (x0 &&& (3 : Int32))), .val (.ref sg), .val (.ref wk), .val (.int (Int32.ofNat (own_S ii).length)), .val (.int (x1 &&& (3 : Int32))), .val (.int (x3 &&& (255 : Int32))), .val (.ref b29), .unset, .unset, .unset, .unset] [(.int 8), (.int (Int32.ofNat (own_S ii).length)), (.ref sg), (.int 8), (.ref b29)])) _
          refine st67 _ ?_
          show Steps p.tables e below (T67.setTop (mkF m 206 #[.val (.int x0), .val (.int x1), .val (.int x2), .val (.int x3), .val (.int x4), .val (.int (x0 &&& (3 : Int32))), .val (.ref sg), .val (.ref wk), .val (.int (Int32.ofNat (own_S ii).length)), .val (.int (x1 &&& (3 : Int32))), .val (.int (x3 &&& (255 : Int32))), .val (.ref b29), .unset, .unset, .unset, .unset] [(.int ((own_S ii).getD 8 0)), (.int 8), (.ref b29)])) _
          refine st69 _ ?_
          exact k)
        as_aux_lemma =>
          obtain ⟨_, _, ⟨T73, L73, k73, n73⟩, -, X73, ⟨Lc73, hQ73, l73, y73, z73⟩, st73⟩ := Jvm.LawKit.callS X71 hx (y := (⟨"com/example/millrace/millrace/definition/NodeKindOfElementPinLaw", "at", "(Ljava/lang/String;II)C"⟩ : MethodName)) hown (mvT hZ (hw _ (own_m (i := 25) rfl))) (mvT hZ (hw _ (own_m (i := 26) rfl))) (mvT hZ (hw _ (own_m (i := 27) rfl))) (mvT hZ (hw _ (own_m (i := 28) rfl))) (by decide) (backOf (W := 2) (own_at l Z a0 hw [] sg (Int32.ofNat (own_S ii).length) (9 : Int32) 9 bv kb (own_S ii) cz fm h69 n0 Z70 Es Fc Fv Vb (own_okS ii) (own_l4 ii) (S0.ext O.2) hcz (Sf.ext O.2) rfm rfl rfl (by decide)) hZ (hw _ (own_m (i := 28) rfl)) (hw _ (own_m (i := 27) rfl)) (by decide) (by decide)) (g := (mkF m 217 #[.val (.int x0), .val (.int x1), .val (.int x2), .val (.int x3), .val (.int x4), .val (.int (x0 &&& (3 : Int32))), .val (.ref sg), .val (.ref wk), .val (.int (Int32.ofNat (own_S ii).length)), .val (.int (x1 &&& (3 : Int32))), .val (.int (x3 &&& (255 : Int32))), .val (.ref b29), .unset, .unset, .unset, .unset] [(.int 9), (.int (Int32.ofNat (own_S ii).length)), (.ref sg), (.int 9), (.ref b29)])) rfl (by rw [hml]; rfl) (argsL := [(.ref sg), (.int (Int32.ofNat (own_S ii).length)), (.int 9)]) (rest := [(.int 9), (.ref b29)]) (lenOf own_pd6 rfl) rfl (by show 2 * 0 + _ ≤ _; exact Nat.le_of_eq rfl) (hb hby at_217) (fun _ _ => ⟨rfl, e69, (by decide : 3 + 0 ≤ _), (by decide : 66 + 0 ≤ _)⟩)
          dsimp only [Pt.U, Pt.locs, Pt.cells, Pt.slots] at X73 l73 y73 z73 st73 hQ73
          subst l73 y73 z73
          obtain ⟨rfl, N73q, e73⟩ := hQ73
          have N73 := Fr.app N71 N73q
          obtain ⟨cl74, Ar74, q74, S74, M74, H74, G74⟩ := id V_b29
          have hin74 : ¬ ((9 : Int32) < 0 ∨ cl74.slots.size ≤ ((9 : Int32)).toNatClampNeg) := inb_of S74 ⟨by decide, by decide⟩
          obtain ⟨T75, h75, X75, e75, W75, st75⟩ := stC X73 hx hZ e73 Ar74 (j := (9 : Int32)) hin74 (g := (mkF m 220 #[.val (.int x0), .val (.int x1), .val (.int x2), .val (.int x3), .val (.int x4), .val (.int (x0 &&& (3 : Int32))), .val (.ref sg), .val (.ref wk), .val (.int (Int32.ofNat (own_S ii).length)), .val (.int (x1 &&& (3 : Int32))), .val (.int (x3 &&& (255 : Int32))), .val (.ref b29), .unset, .unset, .unset, .unset] [(.int ((own_S ii).getD 9 0)), (.int 9), (.ref b29)])) rfl rfl (hb hby at_220)
          have O := O.wr W75 g_b29
          have Es := Es.wr W75
          have Fc := Fc.other W75 (Or.inl ne_sg_b29)
          have Fv := Fv.other W75 (Or.inl ne_sg_b29)
          have Vb := Vb.other W75 ne_bv_b29
          have hk := Nat.le_trans hk (Keep.of_wr W75).1
          have Z76 : n0 ≤ h75.size := Nat.le_trans Z70 (Keep.of_wr W75).1
          have V_b29 := Arv.set Ar74 q74 S74 M74 H74 G74 (fits_nar_char _) W75 9 rfl (Nat.le_of_ble_eq_true rfl)
          have V_b29 : Arv Z h75 b29 k29 .char (14 : Int32) [(.int ((own_S ii).getD 0 0)), (.int ((own_S ii).getD 1 0)), (.int ((own_S ii).getD 2 0)), (.int ((own_S ii).getD 3 0)), (.int ((own_S ii).getD 4 0)), (.int ((own_S ii).getD 5 0)), (.int ((own_S ii).getD 6 0)), (.int ((own_S ii).getD 7 0)), (.int ((own_S ii).getD 8 0)), (.int ((own_S ii).getD 9 0)), (.int 0), (.int 0), (.int 0), (.int 0)] (.int 0) := by have q := V_b29; simp only [(own_c8 (own_gd (own_okS ii) 9)), List.set] at q; exact q
          have N75 := Fr.snoc X75 N73 g_b29
          obtain ⟨_, _, ⟨T77, L77, k77, n77⟩, -, X77, ⟨Lc77, hQ77, l77, y77, z77⟩, st77⟩ := Jvm.LawKit.callS X75 hx (y := (⟨"com/example/millrace/millrace/definition/NodeKindOfElementPinLaw", "at", "(Ljava/lang/String;II)C"⟩ : MethodName)) hown (mvT hZ (hw _ (own_m (i := 25) rfl))) (mvT hZ (hw _ (own_m (i := 26) rfl))) (mvT hZ (hw _ (own_m (i := 27) rfl))) (mvT hZ (hw _ (own_m (i := 28) rfl))) (by decide) (backOf (W := 2) (own_at l Z a0 hw [] sg (Int32.ofNat (own_S ii).length) (10 : Int32) 10 bv kb (own_S ii) cz fm h75 n0 Z76 Es Fc Fv Vb (own_okS ii) (own_l4 ii) (S0.ext O.2) hcz (Sf.ext O.2) rfm rfl rfl (by decide)) hZ (hw _ (own_m (i := 28) rfl)) (hw _ (own_m (i := 27) rfl)) (by decide) (by decide)) (g := (mkF m 231 #[.val (.int x0), .val (.int x1), .val (.int x2), .val (.int x3), .val (.int x4), .val (.int (x0 &&& (3 : Int32))), .val (.ref sg), .val (.ref wk), .val (.int (Int32.ofNat (own_S ii).length)), .val (.int (x1 &&& (3 : Int32))), .val (.int (x3 &&& (255 : Int32))), .val (.ref b29), .unset, .unset, .unset, .unset] [(.int 10), (.int (Int32.ofNat (own_S ii).length)), (.ref sg), (.int 10), (.ref b29)])) rfl (by rw [hml]; rfl) (argsL := [(.ref sg), (.int (Int32.ofNat (own_S ii).length)), (.int 10)]) (rest := [(.int 10), (.ref b29)]) (lenOf own_pd6 rfl) rfl (by show 2 * 0 + _ ≤ _; exact Nat.le_of_eq rfl) (hb hby at_231) (fun _ _ => ⟨rfl, e75, (by decide : 3 + 0 ≤ _), (by decide : 66 + 0 ≤ _)⟩)
          dsimp only [Pt.U, Pt.locs, Pt.cells, Pt.slots] at X77 l77 y77 z77 st77 hQ77
          subst l77 y77 z77
          obtain ⟨rfl, N77q, e77⟩ := hQ77
          have N77 := Fr.app N75 N77q
          obtain ⟨cl78, Ar78, q78, S78, M78, H78, G78⟩ := id V_b29
          have hin78 : ¬ ((10 : Int32) < 0 ∨ cl78.slots.size ≤ ((10 : Int32)).toNatClampNeg) := inb_of S78 ⟨by decide, by decide⟩
          obtain ⟨T79, h79, X79, e79, W79, st79⟩ := stC X77 hx hZ e77 Ar78 (j := (10 : Int32)) hin78 (g := (mkF m 234 #[.val (.int x0), .val (.int x1), .val (.int x2), .val (.int x3), .val (.int x4), .val (.int (x0 &&& (3 : Int32))), .val (.ref sg), .val (.ref wk), .val (.int (Int32.ofNat (own_S ii).length)), .val (.int (x1 &&& (3 : Int32))), .val (.int (x3 &&& (255 : Int32))), .val (.ref b29), .unset, .unset, .unset, .unset] [(.int ((own_S ii).getD 10 0)), (.int 10), (.ref b29)])) rfl rfl (hb hby at_234)
          have O := O.wr W79 g_b29
          have Es := Es.wr W79
          have Fc := Fc.other W79 (Or.inl ne_sg_b29)
          have Fv := Fv.other W79 (Or.inl ne_sg_b29)
          have Vb := Vb.other W79 ne_bv_b29
          have hk := Nat.le_trans hk (Keep.of_wr W79).1
          have Z80 : n0 ≤ h79.size := Nat.le_trans Z76 (Keep.of_wr W79).1
          have V_b29 := Arv.set Ar78 q78 S78 M78 H78 G78 (fits_nar_char _) W79 10 rfl (Nat.le_of_ble_eq_true rfl)
          have V_b29 : Arv Z h79 b29 k29 .char (14 : Int32) [(.int ((own_S ii).getD 0 0)), (.int ((own_S ii).getD 1 0)), (.int ((own_S ii).getD 2 0)), (.int ((own_S ii).getD 3 0)), (.int ((own_S ii).getD 4 0)), (.int ((own_S ii).getD 5 0)), (.int ((own_S ii).getD 6 0)), (.int ((own_S ii).getD 7 0)), (.int ((own_S ii).getD 8 0)), (.int ((own_S ii).getD 9 0)), (.int ((own_S ii).getD 10 0)), (.int 0), (.int 0), (.int 0)] (.int 0) := by have q := V_b29; simp only [(own_c8 (own_gd (own_okS ii) 10)), List.set] at q; exact q
          have N79 := Fr.snoc X79 N77 g_b29
          obtain ⟨_, _, ⟨T81, L81, k81, n81⟩, -, X81, ⟨Lc81, hQ81, l81, y81, z81⟩, st81⟩ := Jvm.LawKit.callS X79 hx (y := (⟨"com/example/millrace/millrace/definition/NodeKindOfElementPinLaw", "at", "(Ljava/lang/String;II)C"⟩ : MethodName)) hown (mvT hZ (hw _ (own_m (i := 25) rfl))) (mvT hZ (hw _ (own_m (i := 26) rfl))) (mvT hZ (hw _ (own_m (i := 27) rfl))) (mvT hZ (hw _ (own_m (i := 28) rfl))) (by decide) (backOf (W := 2) (own_at l Z a0 hw [] sg (Int32.ofNat (own_S ii).length) (11 : Int32) 11 bv kb (own_S ii) cz fm h79 n0 Z80 Es Fc Fv Vb (own_okS ii) (own_l4 ii) (S0.ext O.2) hcz (Sf.ext O.2) rfm rfl rfl (by decide)) hZ (hw _ (own_m (i := 28) rfl)) (hw _ (own_m (i := 27) rfl)) (by decide) (by decide)) (g := (mkF m 245 #[.val (.int x0), .val (.int x1), .val (.int x2), .val (.int x3), .val (.int x4), .val (.int (x0 &&& (3 : Int32))), .val (.ref sg), .val (.ref wk), .val (.int (Int32.ofNat (own_S ii).length)), .val (.int (x1 &&& (3 : Int32))), .val (.int (x3 &&& (255 : Int32))), .val (.ref b29), .unset, .unset, .unset, .unset] [(.int 11), (.int (Int32.ofNat (own_S ii).length)), (.ref sg), (.int 11), (.ref b29)])) rfl (by rw [hml]; rfl) (argsL := [(.ref sg), (.int (Int32.ofNat (own_S ii).length)), (.int 11)]) (rest := [(.int 11), (.ref b29)]) (lenOf own_pd6 rfl) rfl (by show 2 * 0 + _ ≤ _; exact Nat.le_of_eq rfl) (hb hby at_245) (fun _ _ => ⟨rfl, e79, (by decide : 3 + 0 ≤ _), (by decide : 66 + 0 ≤ _)⟩)
          dsimp only [Pt.U, Pt.locs, Pt.cells, Pt.slots] at X81 l81 y81 z81 st81 hQ81
          subst l81 y81 z81
          obtain ⟨rfl, N81q, e81⟩ := hQ81
          have N81 := Fr.app N79 N81q
          obtain ⟨cl82, Ar82, q82, S82, M82, H82, G82⟩ := id V_b29
          have hin82 : ¬ ((11 : Int32) < 0 ∨ cl82.slots.size ≤ ((11 : Int32)).toNatClampNeg) := inb_of S82 ⟨by decide, by decide⟩
          obtain ⟨T83, h83, X83, e83, W83, st83⟩ := stC X81 hx hZ e81 Ar82 (j := (11 : Int32)) hin82 (g := (mkF m 248 #[.val (.int x0), .val (.int x1), .val (.int x2), .val (.int x3), .val (.int x4), .val (.int (x0 &&& (3 : Int32))), .val (.ref sg), .val (.ref wk), .val (.int (Int32.ofNat (own_S ii).length)), .val (.int (x1 &&& (3 : Int32))), .val (.int (x3 &&& (255 : Int32))), .val (.ref b29), .unset, .unset, .unset, .unset] [(.int ((own_S ii).getD 11 0)), (.int 11), (.ref b29)])) rfl rfl (hb hby at_248)
          have O := O.wr W83 g_b29
          have Es := Es.wr W83
          have Fc := Fc.other W83 (Or.inl ne_sg_b29)
          have Fv := Fv.other W83 (Or.inl ne_sg_b29)
          have Vb := Vb.other W83 ne_bv_b29
          have hk := Nat.le_trans hk (Keep.of_wr W83).1
          have Z84 : n0 ≤ h83.size := Nat.le_trans Z80 (Keep.of_wr W83).1
          have V_b29 := Arv.set Ar82 q82 S82 M82 H82 G82 (fits_nar_char _) W83 11 rfl (Nat.le_of_ble_eq_true rfl)
          have V_b29 : Arv Z h83 b29 k29 .char (14 : Int32) [(.int ((own_S ii).getD 0 0)), (.int ((own_S ii).getD 1 0)), (.int ((own_S ii).getD 2 0)), (.int ((own_S ii).getD 3 0)), (.int ((own_S ii).getD 4 0)), (.int ((own_S ii).getD 5 0)), (.int ((own_S ii).getD 6 0)), (.int ((own_S ii).getD 7 0)), (.int ((own_S ii).getD 8 0)), (.int ((own_S ii).getD 9 0)), (.int ((own_S ii).getD 10 0)), (.int ((own_S ii).getD 11 0)), (.int 0), (.int 0)] (.int 0) := by have q := V_b29; simp only [(own_c8 (own_gd (own_okS ii) 11)), List.set] at q; exact q
          have N83 := Fr.snoc X83 N81 g_b29
          have VA : Arv Z h83 b29 k29 .char (14 : Int32) (List.map Value.int (own_A ii)) (.int 0) := V_b29
          obtain ⟨LL85, X85, N85⟩ : ∃ L, Stand p l e room_1 _ m #[(.int x0), (.int x1), (.int x2), (.int x3), (.int x4)] below meth c T83 L 3 66 ∧ Fr n0 L := ⟨_, X83, N83⟩
          have pre86 : ∀ t, Steps p.tables e below (T83.setTop (mkF m 249 #[.val (.int x0), .val (.int x1), .val (.int x2), .val (.int x3), .val (.int x4), .val (.int (x0 &&& (3 : Int32))), .val (.ref sg), .val (.ref wk), .val (.int (Int32.ofNat (own_S ii).length)), .val (.int (x1 &&& (3 : Int32))), .val (.int (x3 &&& (255 : Int32))), .val (.ref b29), .unset, .unset, .unset, .unset] [])) t → Steps p.tables e below (s₁.setTop (entryFrame m #[(.int x0), (.int x1), (.int x2), (.int x3), (.int x4)] maxLocals)) t := fun t k => pre72 t (by
            show Steps p.tables e below (T69.setTop (mkF m 207 #[.val (.int x0), .val (.int x1), .val (.int x2), .val (.int x3), .val (.int x4), .val (.int (x0 &&& (3 : Int32))), .val (.ref sg), .val (.ref wk), .val (.int (Int32.ofNat (own_S ii).length)), .val (.int (x1 &&& (3 : Int32))), .val (.int (x3 &&& (255 : Int32))), .val (.ref b29), .unset, .unset, .unset, .unset] [])) _
            refine XS.aload X71.here hx rfl (hb hby at_207) rfl rfl ?_
            show Steps p.tables e below (T69.setTop (mkF m 209 #[.val (.int x0), .val (.int x1), .val (.int x2), .val (.int x3), .val (.int x4), .val (.int (x0 &&& (3 : Int32))), .val (.ref sg), .val (.ref wk), .val (.int (Int32.ofNat (own_S ii).length)), .val (.int (x1 &&& (3 : Int32))), .val (.int (x3 &&& (255 : Int32))), .val (.ref b29), .unset, .unset, .unset, .unset] [(.ref b29)])) _
            refine XS.bipush X71.here hx rfl (hb hby at_209) ?_
            show Steps p.tables e below (T69.setTop (mkF m 211 #[.val (.int x0), .val (.int x1), .val (.int x2), .val (.int x3), .val (.int x4), .val (.int (x0 &&& (3 : Int32))), .val (.ref sg), .val (.ref wk), .val (.int (Int32.ofNat (own_S ii).length)), .val (.int (x1 &&& (3 : Int32))), .val (.int (x3 &&& (255 : Int32))), .val (.ref b29), .unset, .unset, .unset, .unset] [(.int 9), (.ref b29)])) _
            refine XS.aload X71.here hx rfl (hb hby at_211) rfl rfl ?_
            show Steps p.tables e below (T69.setTop (mkF m 213 #[.val (.int x0), .val (.int x1), .val (.int x2), .val (.int x3), .val (.int x4), .val (.int (x0 &&& (3 : Int32))), .val (.ref sg), .val (.ref wk), .val (.int (Int32.ofNat (own_S ii).length)), .val (.int (x1 &&& (3 : Int32))), .val (.int (x3 &&& (255 : Int32))), .val (.ref b29), .unset, .unset, .unset, .unset] [(.ref sg), (.int 9), (.ref b29)])) _
            refine XS.iload X71.here hx rfl (hb hby at_213) rfl ?_
            show Steps p.tables e below (T69.setTop (mkF m 215 #[.val (.int x0), .val (.int x1), .val (.int x2), .val (.int x3), .val (.int x4), .val (.int (x0 &&& (3 : Int32))), .val (.ref sg), .val (.ref wk), .val (.int (Int32.ofNat (own_S ii).length)), .val (.int (x1 &&& (3 : Int32))), .val (.int (x3 &&& (255 : Int32))), .val (.ref b29), .unset, .unset, .unset, .unset] [(.int (Int32.ofNat (own_S ii).length)), (.ref sg), (.int 9), (.ref b29)])) _
            refine XS.bipush X71.here hx rfl (hb hby at_215) ?_
            show Steps p.tables e below (T69.setTop (mkF m 217 #[.val (.int x0), .val (.int x1), .val (.int x2), .val (.int x3), .val (.int x4), .val (.int (x0 &&& (3 : Int32))), .val (.ref sg), .val (.ref wk), .val (.int (Int32.ofNat (own_S ii).length)), .val (.int (x1 &&& (3 : Int32))), .val (.int (x3 &&& (255 : Int32))), .val (.ref b29), .unset, .unset, .unset, .unset] [(.int 9), (.int (Int32.ofNat (own_S ii).length)), (.ref sg), (.int 9), (.ref b29)])) _
            refine st73 _ ?_
            show Steps p.tables e below (T73.setTop (mkF m 220 #[.val (.int x0), .val (.int x1), .val (.int x2), .val (.int x3), .val (.int x4), .val (.int (x0 &&& (3 : Int32))), .val (.ref sg), .val (.ref wk), .val (.int (Int32.ofNat (own_S ii).length)), .val (.int (x1 &&& (3 : Int32))), .val (.int (x3 &&& (255 : Int32))), .val (.ref b29), .unset, .unset, .unset, .unset] [(.int ((own_S ii).getD 9 0)), (.int 9), (.ref b29)])) _
            refine st75 _ ?_
            show Steps p.tables e below (T75.setTop (mkF m 221 #[.val (.int x0), .val (.int x1), .val (.int x2), .val (.int x3), .val (.int x4), .val (.int (x0 &&& (3 : Int32))), .val (.ref sg), .val (.ref wk), .val (.int (Int32.ofNat (own_S ii).length)), .val (.int (x1 &&& (3 : Int32))), .val (.int (x3 &&& (255 : Int32))), .val (.ref b29), .unset, .unset, .unset, .unset] [])) _
            refine XS.aload X75.here hx rfl (hb hby at_221) rfl rfl ?_
            show Steps p.tables e below (T75.setTop (mkF m 223 #[.val (.int x0), .val (.int x1), .val (.int x2), .val (.int x3), .val (.int x4), .val (.int (x0 &&& (3 : Int32))), .val (.ref sg), .val (.ref wk), .val (.int (Int32.ofNat (own_S ii).length)), .val (.int (x1 &&& (3 : Int32))), .val (.int (x3 &&& (255 : Int32))), .val (.ref b29), .unset, .unset, .unset, .unset] [(.ref b29)])) _
            refine XS.bipush X75.here hx rfl (hb hby at_223) ?_
            show Steps p.tables e below (T75.setTop (mkF m 225 #[.val (.int x0), .val (.int x1), .val (.int x2), .val (.int x3), .val (.int x4), .val (.int (x0 &&& (3 : Int32))), .val (.ref sg), .val (.ref wk), .val (.int (Int32.ofNat (own_S ii).length)), .val (.int (x1 &&& (3 : Int32))), .val (.int (x3 &&& (255 : Int32))), .val (.ref b29), .unset, .unset, .unset, .unset] [(.int 10), (.ref b29)])) _
            refine XS.aload X75.here hx rfl (hb hby at_225) rfl rfl ?_
            show Steps p.tables e below (T75.setTop (mkF m 227 #[.val (.int x0), .val (.int x1), .val (.int x2), .val (.int x3), .val (.int x4), .val (.int (x0 &&& (3 : Int32))), .val (.ref sg), .val (.ref wk), .val (.int (Int32.ofNat (own_S ii).length)), .val (.int (x1 &&& (3 : Int32))), .val (.int (x3 &&& (255 : Int32))), .val (.ref b29), .unset, .unset, .unset, .unset] [(.ref sg), (.int 10), (.ref b29)])) _
            refine XS.iload X75.here hx rfl (hb hby at_227) rfl ?_
            show Steps p.tables e below (T75.setTop (mkF m 229 #[.val (.int x0), .val (.int x1), .val (.int x2), .val (.int x3), .val (.int x4), .val (.int (x0 &&& (3 : Int32))), .val (.ref sg), .val (.ref wk), .val (.int (Int32.ofNat (own_S ii).length)), .val (.int (x1 &&& (3 : Int32))), .val (.int (x3 &&& (255 : Int32))), .val (.ref b29), .unset, .unset, .unset, .unset] [(.int (Int32.ofNat (own_S ii).length)), (.ref sg), (.int 10), (.ref b29)])) _
            refine XS.bipush X75.here hx rfl (hb hby at_229) ?_
            show Steps p.tables e below (T75.setTop (mkF m 231 #[.val (.int x0), .val (.int x1), .val (.int x2), .val (.int x3), .val (.int x4), .val (.int (x0 &&& (3 : Int32))), .val (.ref sg), .val (.ref wk), .val (.int (Int32.ofNat (own_S ii).length)), .val (.int (x1 &&& (3 : Int32))), .val (.int (x3 &&& (255 : Int32))), .val (.ref b29), .unset, .unset, .unset, .unset] [(.int 10), (.int (Int32.ofNat (own_S ii).length)), (.ref sg), (.int 10), (.ref b29)])) _
            refine st77 _ ?_
            show Steps p.tables e below (T77.setTop (mkF m 234 #[.val (.int x0), .val (.int x1), .val (.int x2), .val (.int x3), .val (.int x4), .val (.int (x0 &&& (3 : Int32))), .val (.ref sg), .val (.ref wk), .val (.int (Int32.ofNat (own_S ii).length)), .val (.int (x1 &&& (3 : Int32))), .val (.int (x3 &&& (255 : Int32))), .val (.ref b29), .unset, .unset, .unset, .unset] [(.int ((own_S ii).getD 10 0)), (.int 10), (.ref b29)])) _
            refine st79 _ ?_
            show Steps p.tables e below (T79.setTop (mkF m 235 #[.val (.int x0), .val (.int x1), .val (.int x2), .val (.int x3), .val (.int x4), .val (.int (x0 &&& (3 : Int32))), .val (.ref sg), .val (.ref wk), .val (.int (Int32.ofNat (own_S ii).length)), .val (.int (x1 &&& (3 : Int32))), .val (.int (x3 &&& (255 : Int32))), .val (.ref b29), .unset, .unset, .unset, .unset] [])) _
            refine XS.aload X79.here hx rfl (hb hby at_235) rfl rfl ?_
            show Steps p.tables e below (T79.setTop (mkF m 237 #[.val (.int x0), .val (.int x1), .val (.int x2), .val (.int x3), .val (.int x4), .val (.int (x0 &&& (3 : Int32))), .val (.ref sg), .val (.ref wk), .val (.int (Int32.ofNat (own_S ii).length)), .val (.int (x1 &&& (3 : Int32))), .val (.int (x3 &&& (255 : Int32))), .val (.ref b29), .unset, .unset, .unset, .unset] [(.ref b29)])) _
            refine XS.bipush X79.here hx rfl (hb hby at_237) ?_
            show Steps p.tables e below (T79.setTop (mkF m 239 #[.val (.int x0), .val (.int x1), .val (.int x2), .val (.int x3), .val (.int x4), .val (.int (x0 &&& (3 : Int32))), .val (.ref sg), .val (.ref wk), .val (.int (Int32.ofNat (own_S ii).length)), .val (.int (x1 &&& (3 : Int32))), .val (.int (x3 &&& (255 : Int32))), .val (.ref b29), .unset, .unset, .unset, .unset] [(.int 11), (.ref b29)])) _
            refine XS.aload X79.here hx rfl (hb hby at_239) rfl rfl ?_
            show Steps p.tables e below (T79.setTop (mkF m 241 #[.val (.int x0), .val (.int x1), .val (.int x2), .val (.int x3), .val (.int x4), .val (.int (x0 &&& (3 : Int32))), .val (.ref sg), .val (.ref wk), .val (.int (Int32.ofNat (own_S ii).length)), .val (.int (x1 &&& (3 : Int32))), .val (.int (x3 &&& (255 : Int32))), .val (.ref b29), .unset, .unset, .unset, .unset] [(.ref sg), (.int 11), (.ref b29)])) _
            refine XS.iload X79.here hx rfl (hb hby at_241) rfl ?_
            show Steps p.tables e below (T79.setTop (mkF m 243 #[.val (.int x0), .val (.int x1), .val (.int x2), .val (.int x3), .val (.int x4), .val (.int (x0 &&& (3 : Int32))), .val (.ref sg), .val (.ref wk), .val (.int (Int32.ofNat (own_S ii).length)), .val (.int (x1 &&& (3 : Int32))), .val (.int (x3 &&& (255 : Int32))), .val (.ref b29), .unset, .unset, .unset, .unset] [(.int (Int32.ofNat (own_S ii).length)), (.ref sg), (.int 11), (.ref b29)])) _
            refine XS.bipush X79.here hx rfl (hb hby at_243) ?_
            show Steps p.tables e below (T79.setTop (mkF m 245 #[.val (.int x0), .val (.int x1), .val (.int x2), .val (.int x3), .val (.int x4), .val (.int (x0 &&& (3 : Int32))), .val (.ref sg), .val (.ref wk), .val (.int (Int32.ofNat (own_S ii).length)), .val (.int (x1 &&& (3 : Int32))), .val (.int (x3 &&& (255 : Int32))), .val (.ref b29), .unset, .unset, .unset, .unset] [(.int 11), (.int (Int32.ofNat (own_S ii).length)), (.ref sg), (.int 11), (.ref b29)])) _
            refine st81 _ ?_
            show Steps p.tables e below (T81.setTop (mkF m 248 #[.val (.int x0), .val (.int x1), .val (.int x2), .val (.int x3), .val (.int x4), .val (.int (x0 &&& (3 : Int32))), .val (.ref sg), .val (.ref wk), .val (.int (Int32.ofNat (own_S ii).length)), .val (.int (x1 &&& (3 : Int32))), .val (.int (x3 &&& (255 : Int32))), .val (.ref b29), .unset, .unset, .unset, .unset] [(.int ((own_S ii).getD 11 0)), (.int 11), (.ref b29)])) _
            refine st83 _ ?_
            exact k)
          as_aux_lemma =>
            have pre87 : ∀ t, Steps p.tables e below (T83.setTop (mkF m 251 #[.val (.int x0), .val (.int x1), .val (.int x2), .val (.int x3), .val (.int x4), .val (.int (x0 &&& (3 : Int32))), .val (.ref sg), .val (.ref wk), .val (.int (Int32.ofNat (own_S ii).length)), .val (.int (x1 &&& (3 : Int32))), .val (.int (x3 &&& (255 : Int32))), .val (.ref b29), .unset, .unset, .unset, .unset] [(.int (x1 &&& (3 : Int32)))])) t → Steps p.tables e below (s₁.setTop (entryFrame m #[(.int x0), (.int x1), (.int x2), (.int x3), (.int x4)] maxLocals)) t := fun t k => pre86 t (by
              show Steps p.tables e below (T83.setTop (mkF m 249 #[.val (.int x0), .val (.int x1), .val (.int x2), .val (.int x3), .val (.int x4), .val (.int (x0 &&& (3 : Int32))), .val (.ref sg), .val (.ref wk), .val (.int (Int32.ofNat (own_S ii).length)), .val (.int (x1 &&& (3 : Int32))), .val (.int (x3 &&& (255 : Int32))), .val (.ref b29), .unset, .unset, .unset, .unset] [])) _
              refine XS.iload X85.here hx rfl (hb hby at_249) rfl ?_
              show Steps p.tables e below (T83.setTop (mkF m 251 #[.val (.int x0), .val (.int x1), .val (.int x2), .val (.int x3), .val (.int x4), .val (.int (x0 &&& (3 : Int32))), .val (.ref sg), .val (.ref wk), .val (.int (Int32.ofNat (own_S ii).length)), .val (.int (x1 &&& (3 : Int32))), .val (.int (x3 &&& (255 : Int32))), .val (.ref b29), .unset, .unset, .unset, .unset] [(.int (x1 &&& (3 : Int32)))])) _
              exact k)
            by_cases hc88 : (x1 &&& (3 : Int32)) = (0 : Int32)
            · skip
              as_aux_lemma =>
                have pre90 : ∀ t, Steps p.tables e below (T83.setTop (mkF m 258 #[.val (.int x0), .val (.int x1), .val (.int x2), .val (.int x3), .val (.int x4), .val (.int (x0 &&& (3 : Int32))), .val (.ref sg), .val (.ref wk), .val (.int (Int32.ofNat (own_S ii).length)), .val (.int (x1 &&& (3 : Int32))), .val (.int (x3 &&& (255 : Int32))), .val (.ref b29), .unset, .unset, .unset, .unset] [(.int (Int32.ofNat (own_S ii).length)), (.ref b29)])) t → Steps p.tables e below (s₁.setTop (entryFrame m #[(.int x0), (.int x1), (.int x2), (.int x3), (.int x4)] maxLocals)) t := fun t k => pre87 t (by
                  refine XS.ifNo X85.here hx rfl (hb hby at_251) rfl ((if0 _ _).trans (teq hc88).2) ?_
                  show Steps p.tables e below (T83.setTop (mkF m 254 #[.val (.int x0), .val (.int x1), .val (.int x2), .val (.int x3), .val (.int x4), .val (.int (x0 &&& (3 : Int32))), .val (.ref sg), .val (.ref wk), .val (.int (Int32.ofNat (own_S ii).length)), .val (.int (x1 &&& (3 : Int32))), .val (.int (x3 &&& (255 : Int32))), .val (.ref b29), .unset, .unset, .unset, .unset] [])) _
                  refine XS.aload X85.here hx rfl (hb hby at_254) rfl rfl ?_
                  show Steps p.tables e below (T83.setTop (mkF m 256 #[.val (.int x0), .val (.int x1), .val (.int x2), .val (.int x3), .val (.int x4), .val (.int (x0 &&& (3 : Int32))), .val (.ref sg), .val (.ref wk), .val (.int (Int32.ofNat (own_S ii).length)), .val (.int (x1 &&& (3 : Int32))), .val (.int (x3 &&& (255 : Int32))), .val (.ref b29), .unset, .unset, .unset, .unset] [(.ref b29)])) _
                  refine XS.iload X85.here hx rfl (hb hby at_256) rfl ?_
                  show Steps p.tables e below (T83.setTop (mkF m 258 #[.val (.int x0), .val (.int x1), .val (.int x2), .val (.int x3), .val (.int x4), .val (.int (x0 &&& (3 : Int32))), .val (.ref sg), .val (.ref wk), .val (.int (Int32.ofNat (own_S ii).length)), .val (.int (x1 &&& (3 : Int32))), .val (.int (x3 &&& (255 : Int32))), .val (.ref b29), .unset, .unset, .unset, .unset] [(.int (Int32.ofNat (own_S ii).length)), (.ref b29)])) _
                  exact k)
                obtain ⟨_, _, ⟨T89, L89, k89, n89⟩, -, X89, hS89, hg89, ⟨Lc89, hQ89, l89, y89, z89⟩, st89⟩ := callSS X85 hx (y := (⟨"com/example/millrace/millrace/definition/NodeKindOfElementPinLaw", "prefix", "([CI)Ljava/lang/String;"⟩ : MethodName)) hown (mvT hZ (hw _ (own_m (i := 51) rfl))) (mvT hZ (hw _ (own_m (i := 52) rfl))) (mvT hZ (hw _ (own_m (i := 27) rfl))) (mvT hZ (hw _ (own_m (i := 53) rfl))) (by decide) (own_backOfSB (W := 0) (own_prefix l Z a0 hw [] b29 (Int32.ofNat (own_S ii).length) [own_T ii] cz k29 (own_A ii) (own_S ii).length h83 n0 Z84 (O) HC hcw (own_noE hii) S0 hcz VA (own_okA hii) (own_lenA ii) rfl (own_l13 ii)) hZ hI (hw _ (own_m (i := 53) rfl)) (hw _ (own_m (i := 27) rfl)) (by decide) (by decide)) (g := (mkF m 258 #[.val (.int x0), .val (.int x1), .val (.int x2), .val (.int x3), .val (.int x4), .val (.int (x0 &&& (3 : Int32))), .val (.ref sg), .val (.ref wk), .val (.int (Int32.ofNat (own_S ii).length)), .val (.int (x1 &&& (3 : Int32))), .val (.int (x3 &&& (255 : Int32))), .val (.ref b29), .unset, .unset, .unset, .unset] [(.int (Int32.ofNat (own_S ii).length)), (.ref b29)])) rfl (by rw [hml]; rfl) (argsL := [(.ref b29), (.int (Int32.ofNat (own_S ii).length))]) (rest := []) (lenOf own_pd7 rfl) rfl (by show 2 * 0 + _ ≤ _; exact Nat.le_of_eq rfl) (hb hby at_258) (fun _ _ => ⟨rfl, e83, (by decide : 3 + 4 ≤ _), (by decide : 66 + 30 ≤ _)⟩)
                dsimp only [Pt.U, Pt.locs, Pt.cells, Pt.slots] at X89 l89 y89 z89 st89 hQ89 hS89 hg89
                subst l89 y89 z89
                obtain ⟨X89, hS, hZ, hown⟩ := rebS hS (show _ ≤ T83.heap.size by rw [e83]; exact hk) X89 hS89 hg89 hZ hown
                obtain ⟨sg89, bw89, kw89, rfl, N89q, K89, Ee89, Fc89, Fv89, VB89⟩ := hQ89
                have N89 := Fr.app N85 N89q
                have O := O.keep K89 all0
                have VA := VA.keep K89 nin0
                have Z91 := Nat.le_trans Z84 K89.1
                have hk := Nat.le_refl T89.heap.size
                obtain ⟨_, _, ⟨T92, L92, k92, n92⟩, -, X92, ⟨Lc92, hQ92, l92, y92, z92⟩, st92⟩ := Jvm.LawKit.callS X89 hx (y := (⟨"com/example/millrace/millrace/definition/NodeKind", "ofElement", "(Ljava/lang/String;)Lcom/example/millrace/millrace/definition/NodeKind;"⟩ : MethodName)) hown (mvT hZ (hw _ (own_m (i := 75) rfl))) (mvT hZ (hw _ (own_m (i := 76) rfl))) (mvT hZ (hw _ (own_m (i := 9) rfl))) (mvT hZ (hw _ (own_m (i := 77) rfl))) (by decide) (backOf (W := 0) (own_ofE l Z a0 hw [] sg89 bw89 kw89 (List.take (own_S ii).length (own_A ii)) cz va kv w0 w1 w2 w3 sg0 bv0 kb0 sg1 bv1 kb1 sg2 bv2 kb2 sg3 bv3 kb3 T89.heap n0 Z91 Ee89 Fc89 Fv89 VB89 (own_okT (own_okA hii) _) (own_lnT (own_lenA ii) _) (S0.ext O.2) hcz (S_V.ext O.2) (VV.ext O.2) (EV.ext O.2) (Fe0.ext O.2) (Es0.ext O.2) (Fc0.ext O.2) (Fv0.ext O.2) (Vb0.ext O.2) (Fe1.ext O.2) (Es1.ext O.2) (Fc1.ext O.2) (Fv1.ext O.2) (Vb1.ext O.2) (Fe2.ext O.2) (Es2.ext O.2) (Fc2.ext O.2) (Fv2.ext O.2) (Vb2.ext O.2) (Fe3.ext O.2) (Es3.ext O.2) (Fc3.ext O.2) (Fv3.ext O.2) (Vb3.ext O.2)) hZ (hw _ (own_m (i := 77) rfl)) (hw _ (own_m (i := 9) rfl)) (by decide) (by decide)) (g := (mkF m 380 #[.val (.int x0), .val (.int x1), .val (.int x2), .val (.int x3), .val (.int x4), .val (.int (x0 &&& (3 : Int32))), .val (.ref sg), .val (.ref wk), .val (.int (Int32.ofNat (own_S ii).length)), .val (.int (x1 &&& (3 : Int32))), .val (.int (x3 &&& (255 : Int32))), .val (.ref b29), .val (.ref sg89), .val (.ref wk), .unset, .unset] [(.ref sg89)])) rfl (by rw [hml]; rfl) (argsL := [(.ref sg89)]) (rest := []) (lenOf own_pd8 rfl) rfl (by show 2 * 0 + _ ≤ _; exact Nat.le_of_eq rfl) (hb hby at_380) (fun _ _ => ⟨rfl, rfl, (by decide : 7 + 1 ≤ _), (by decide : 96 + 4 ≤ _)⟩)
                dsimp only [Pt.U, Pt.locs, Pt.cells, Pt.slots] at X92 l92 y92 z92 st92 hQ92
                subst l92 y92 z92
                obtain ⟨rv92, N92q, K92⟩ := hQ92
                rw [own_k0 w0 w1 w2 w3 hii, ← hwk] at rv92
                subst rv92
                have N92 := Fr.app N89 N92q
                have O := O.keep K92 all0
                have VA := VA.keep K92 nin0
                have hk := Nat.le_trans hk K92.1
                have Z93 := Nat.le_trans Z91 K92.1
                obtain ⟨fs, hr, hrun, hended, hRW⟩ := X92.leaveW hS hk (v := some (.int 1)) (fun h => by rw [Bd.returns] at h; cases h)
                refine ⟨_, _, pre90 _ ?_, hrun, hended, _, _, rfl, ?_, hRW.1, hRW.2.1, hRW.2.2.1, hRW.2.2.2.mono (by decide) (by decide)⟩
                · refine st89.trans ?_
                  show Steps p.tables e below (T89.setTop (mkF m 261 #[.val (.int x0), .val (.int x1), .val (.int x2), .val (.int x3), .val (.int x4), .val (.int (x0 &&& (3 : Int32))), .val (.ref sg), .val (.ref wk), .val (.int (Int32.ofNat (own_S ii).length)), .val (.int (x1 &&& (3 : Int32))), .val (.int (x3 &&& (255 : Int32))), .val (.ref b29), .unset, .unset, .unset, .unset] [(.ref sg89)])) _
                  refine XS.astore X89.here hx rfl (hb hby at_261) rfl rfl (l' := #[.val (.int x0), .val (.int x1), .val (.int x2), .val (.int x3), .val (.int x4), .val (.int (x0 &&& (3 : Int32))), .val (.ref sg), .val (.ref wk), .val (.int (Int32.ofNat (own_S ii).length)), .val (.int (x1 &&& (3 : Int32))), .val (.int (x3 &&& (255 : Int32))), .val (.ref b29), .val (.ref sg89), .unset, .unset, .unset]) rfl ?_
                  show Steps p.tables e below (T89.setTop (mkF m 263 #[.val (.int x0), .val (.int x1), .val (.int x2), .val (.int x3), .val (.int x4), .val (.int (x0 &&& (3 : Int32))), .val (.ref sg), .val (.ref wk), .val (.int (Int32.ofNat (own_S ii).length)), .val (.int (x1 &&& (3 : Int32))), .val (.int (x3 &&& (255 : Int32))), .val (.ref b29), .val (.ref sg89), .unset, .unset, .unset] [])) _
                  refine XS.aload X89.here hx rfl (hb hby at_263) rfl rfl ?_
                  show Steps p.tables e below (T89.setTop (mkF m 265 #[.val (.int x0), .val (.int x1), .val (.int x2), .val (.int x3), .val (.int x4), .val (.int (x0 &&& (3 : Int32))), .val (.ref sg), .val (.ref wk), .val (.int (Int32.ofNat (own_S ii).length)), .val (.int (x1 &&& (3 : Int32))), .val (.int (x3 &&& (255 : Int32))), .val (.ref b29), .val (.ref sg89), .unset, .unset, .unset] [(.ref wk)])) _
                  refine XS.astore X89.here hx rfl (hb hby at_265) rfl rfl (l' := #[.val (.int x0), .val (.int x1), .val (.int x2), .val (.int x3), .val (.int x4), .val (.int (x0 &&& (3 : Int32))), .val (.ref sg), .val (.ref wk), .val (.int (Int32.ofNat (own_S ii).length)), .val (.int (x1 &&& (3 : Int32))), .val (.int (x3 &&& (255 : Int32))), .val (.ref b29), .val (.ref sg89), .val (.ref wk), .unset, .unset]) rfl ?_
                  show Steps p.tables e below (T89.setTop (mkF m 267 #[.val (.int x0), .val (.int x1), .val (.int x2), .val (.int x3), .val (.int x4), .val (.int (x0 &&& (3 : Int32))), .val (.ref sg), .val (.ref wk), .val (.int (Int32.ofNat (own_S ii).length)), .val (.int (x1 &&& (3 : Int32))), .val (.int (x3 &&& (255 : Int32))), .val (.ref b29), .val (.ref sg89), .val (.ref wk), .unset, .unset] [])) _
                  refine XS.goto X89.here hx rfl (pc0 := 267) (pc' := 378) rfl (hb hby at_267) (by decide) (by decide) ?_
                  show Steps p.tables e below (T89.setTop (mkF m 378 #[.val (.int x0), .val (.int x1), .val (.int x2), .val (.int x3), .val (.int x4), .val (.int (x0 &&& (3 : Int32))), .val (.ref sg), .val (.ref wk), .val (.int (Int32.ofNat (own_S ii).length)), .val (.int (x1 &&& (3 : Int32))), .val (.int (x3 &&& (255 : Int32))), .val (.ref b29), .val (.ref sg89), .val (.ref wk), .unset, .unset] [])) _
                  refine XS.aload X89.here hx rfl (hb hby at_378) rfl rfl ?_
                  show Steps p.tables e below (T89.setTop (mkF m 380 #[.val (.int x0), .val (.int x1), .val (.int x2), .val (.int x3), .val (.int x4), .val (.int (x0 &&& (3 : Int32))), .val (.ref sg), .val (.ref wk), .val (.int (Int32.ofNat (own_S ii).length)), .val (.int (x1 &&& (3 : Int32))), .val (.int (x3 &&& (255 : Int32))), .val (.ref b29), .val (.ref sg89), .val (.ref wk), .unset, .unset] [(.ref sg89)])) _
                  refine st92 _ ?_
                  show Steps p.tables e below (T92.setTop (mkF m 383 #[.val (.int x0), .val (.int x1), .val (.int x2), .val (.int x3), .val (.int x4), .val (.int (x0 &&& (3 : Int32))), .val (.ref sg), .val (.ref wk), .val (.int (Int32.ofNat (own_S ii).length)), .val (.int (x1 &&& (3 : Int32))), .val (.int (x3 &&& (255 : Int32))), .val (.ref b29), .val (.ref sg89), .val (.ref wk), .unset, .unset] [(.ref wk)])) _
                  refine XS.aload X92.here hx rfl (hb hby at_383) rfl rfl ?_
                  show Steps p.tables e below (T92.setTop (mkF m 385 #[.val (.int x0), .val (.int x1), .val (.int x2), .val (.int x3), .val (.int x4), .val (.int (x0 &&& (3 : Int32))), .val (.ref sg), .val (.ref wk), .val (.int (Int32.ofNat (own_S ii).length)), .val (.int (x1 &&& (3 : Int32))), .val (.int (x3 &&& (255 : Int32))), .val (.ref b29), .val (.ref sg89), .val (.ref wk), .unset, .unset] [(.ref wk), (.ref wk)])) _
                  refine Jvm.RoadKit.acmp (g := (mkF m 385 #[.val (.int x0), .val (.int x1), .val (.int x2), .val (.int x3), .val (.int x4), .val (.int (x0 &&& (3 : Int32))), .val (.ref sg), .val (.ref wk), .val (.int (Int32.ofNat (own_S ii).length)), .val (.int (x1 &&& (3 : Int32))), .val (.int (x3 &&& (255 : Int32))), .val (.ref b29), .val (.ref sg89), .val (.ref wk), .unset, .unset] [(.ref wk), (.ref wk)])) X92 hx rfl rfl rfl (pc0 := 385) (pc' := 388) (same := true) rfl (hb hby at_385) rfl (decide_eq_true rfl) (by decide) (by decide) ?_
                  show Steps p.tables e below (T92.setTop (mkF m 388 #[.val (.int x0), .val (.int x1), .val (.int x2), .val (.int x3), .val (.int x4), .val (.int (x0 &&& (3 : Int32))), .val (.ref sg), .val (.ref wk), .val (.int (Int32.ofNat (own_S ii).length)), .val (.int (x1 &&& (3 : Int32))), .val (.int (x3 &&& (255 : Int32))), .val (.ref b29), .val (.ref sg89), .val (.ref wk), .unset, .unset] [])) _
                  refine XS.iconst X92.here hx rfl (hb hby at_388) ?_
                  show Steps p.tables e below (T92.setTop (mkF m 389 #[.val (.int x0), .val (.int x1), .val (.int x2), .val (.int x3), .val (.int x4), .val (.int (x0 &&& (3 : Int32))), .val (.ref sg), .val (.ref wk), .val (.int (Int32.ofNat (own_S ii).length)), .val (.int (x1 &&& (3 : Int32))), .val (.int (x3 &&& (255 : Int32))), .val (.ref b29), .val (.ref sg89), .val (.ref wk), .unset, .unset] [(.int 1)])) _
                  refine XS.goto X92.here hx rfl (pc0 := 389) (pc' := 393) rfl (hb hby at_389) (by decide) (by decide) ?_
                  show Steps p.tables e below (T92.setTop (mkF m 393 #[.val (.int x0), .val (.int x1), .val (.int x2), .val (.int x3), .val (.int x4), .val (.int (x0 &&& (3 : Int32))), .val (.ref sg), .val (.ref wk), .val (.int (Int32.ofNat (own_S ii).length)), .val (.int (x1 &&& (3 : Int32))), .val (.int (x3 &&& (255 : Int32))), .val (.ref b29), .val (.ref sg89), .val (.ref wk), .unset, .unset] [(.int 1)])) _
                  exact retN X92 hx (t := .boolean) Bd.returns (by simp) (hb hby at_393) hr
                · show own_Q_own_law Z x0 x1 x2 x3 x4 cz fm va kv w0 w1 w2 w3 sg0 bv0 kb0 sg1 bv1 kb1 sg2 bv2 kb2 sg3 bv3 kb3 h0 n0 _ T92.heap _
                  exact ⟨rfl, N92⟩
            · skip
              as_aux_lemma =>
                have pre94 : ∀ t, Steps p.tables e below (T83.setTop (mkF m 273 #[.val (.int x0), .val (.int x1), .val (.int x2), .val (.int x3), .val (.int x4), .val (.int (x0 &&& (3 : Int32))), .val (.ref sg), .val (.ref wk), .val (.int (Int32.ofNat (own_S ii).length)), .val (.int (x1 &&& (3 : Int32))), .val (.int (x3 &&& (255 : Int32))), .val (.ref b29), .unset, .unset, .unset, .unset] [(.int 1), (.int (x1 &&& (3 : Int32)))])) t → Steps p.tables e below (s₁.setTop (entryFrame m #[(.int x0), (.int x1), (.int x2), (.int x3), (.int x4)] maxLocals)) t := fun t k => pre87 t (by
                  refine XS.ifYes X85.here hx rfl (pc0 := 251) (pc' := 270) rfl (hb hby at_251) rfl ((if0 _ _).trans (feq hc88).2) (by decide) (by decide) ?_
                  show Steps p.tables e below (T83.setTop (mkF m 270 #[.val (.int x0), .val (.int x1), .val (.int x2), .val (.int x3), .val (.int x4), .val (.int (x0 &&& (3 : Int32))), .val (.ref sg), .val (.ref wk), .val (.int (Int32.ofNat (own_S ii).length)), .val (.int (x1 &&& (3 : Int32))), .val (.int (x3 &&& (255 : Int32))), .val (.ref b29), .unset, .unset, .unset, .unset] [])) _
                  refine XS.iload X85.here hx rfl (hb hby at_270) rfl ?_
                  show Steps p.tables e below (T83.setTop (mkF m 272 #[.val (.int x0), .val (.int x1), .val (.int x2), .val (.int x3), .val (.int x4), .val (.int (x0 &&& (3 : Int32))), .val (.ref sg), .val (.ref wk), .val (.int (Int32.ofNat (own_S ii).length)), .val (.int (x1 &&& (3 : Int32))), .val (.int (x3 &&& (255 : Int32))), .val (.ref b29), .unset, .unset, .unset, .unset] [(.int (x1 &&& (3 : Int32)))])) _
                  refine XS.iconst X85.here hx rfl (hb hby at_272) ?_
                  show Steps p.tables e below (T83.setTop (mkF m 273 #[.val (.int x0), .val (.int x1), .val (.int x2), .val (.int x3), .val (.int x4), .val (.int (x0 &&& (3 : Int32))), .val (.ref sg), .val (.ref wk), .val (.int (Int32.ofNat (own_S ii).length)), .val (.int (x1 &&& (3 : Int32))), .val (.int (x3 &&& (255 : Int32))), .val (.ref b29), .unset, .unset, .unset, .unset] [(.int 1), (.int (x1 &&& (3 : Int32)))])) _
                  exact k)
                by_cases hc95 : (x1 &&& (3 : Int32)) = (1 : Int32)
                · skip
                  as_aux_lemma =>
                    obtain ⟨pp, hpp, epp⟩ := own_rem x2 ii
                    obtain ⟨cl96, Ar96, q96, S96, M96, H96, G96⟩ := id VA
                    have hin96 : ¬ ((Int32.ofNat pp) < 0 ∨ cl96.slots.size ≤ ((Int32.ofNat pp)).toNatClampNeg) := inb_of S96 (own_ib (own_p14 hpp))
                    obtain ⟨cl97, Ar97, q97, S97, M97, H97, G97⟩ := id VA
                    have hin97 : ¬ ((Int32.ofNat pp) < 0 ∨ cl97.slots.size ≤ ((Int32.ofNat pp)).toNatClampNeg) := inb_of S97 (own_ib (own_p14 hpp))
                    obtain ⟨T98, h98, X98, e98, W98, st98⟩ := stC X85 hx hZ e83 Ar97 (j := (Int32.ofNat pp)) hin97 (g := (mkF m 298 #[.val (.int x0), .val (.int x1), .val (.int x2), .val (.int x3), .val (.int x4), .val (.int (x0 &&& (3 : Int32))), .val (.ref sg), .val (.ref wk), .val (.int (Int32.ofNat (own_S ii).length)), .val (.int (x1 &&& (3 : Int32))), .val (.int (x3 &&& (255 : Int32))), .val (.ref b29), .unset, .unset, .val (.int (Int32.ofNat pp)), .val (.int ((own_A ii).getD pp 0))] [(.int (x3 &&& (255 : Int32))), (.int (Int32.ofNat pp)), (.ref b29)])) rfl rfl (hb hby at_298)
                    have O := O.wr W98 g_b29
                    have hk := Nat.le_trans hk (Keep.of_wr W98).1
                    have Z99 : n0 ≤ h98.size := Nat.le_trans Z84 (Keep.of_wr W98).1
                    have VA : Arv Z h98 b29 k29 .char (14 : Int32) (List.map Value.int ((own_A ii).set pp (x3 &&& (255 : Int32)))) (.int 0) := own_setC Ar97 q97 S97 M97 H97 G97 W98 (i2c_mask _) pp (own_tn (own_p14 hpp)) (own_p14 hpp)
                    have N98 := Fr.snoc X98 N85 g_b29
                    have pre101 : ∀ t, Steps p.tables e below (T98.setTop (mkF m 303 #[.val (.int x0), .val (.int x1), .val (.int x2), .val (.int x3), .val (.int x4), .val (.int (x0 &&& (3 : Int32))), .val (.ref sg), .val (.ref wk), .val (.int (Int32.ofNat (own_S ii).length)), .val (.int (x1 &&& (3 : Int32))), .val (.int (x3 &&& (255 : Int32))), .val (.ref b29), .unset, .unset, .val (.int (Int32.ofNat pp)), .val (.int ((own_A ii).getD pp 0))] [(.int (Int32.ofNat (own_S ii).length)), (.ref b29)])) t → Steps p.tables e below (s₁.setTop (entryFrame m #[(.int x0), (.int x1), (.int x2), (.int x3), (.int x4)] maxLocals)) t := fun t k => pre94 t (by
                      refine XS.icmpNo X85.here hx rfl (hb hby at_273) rfl (teq hc95).2 ?_
                      show Steps p.tables e below (T83.setTop (mkF m 276 #[.val (.int x0), .val (.int x1), .val (.int x2), .val (.int x3), .val (.int x4), .val (.int (x0 &&& (3 : Int32))), .val (.ref sg), .val (.ref wk), .val (.int (Int32.ofNat (own_S ii).length)), .val (.int (x1 &&& (3 : Int32))), .val (.int (x3 &&& (255 : Int32))), .val (.ref b29), .unset, .unset, .unset, .unset] [])) _
                      refine XS.iloadN X85.here hx rfl (hb hby at_276) rfl ?_
                      show Steps p.tables e below (T83.setTop (mkF m 277 #[.val (.int x0), .val (.int x1), .val (.int x2), .val (.int x3), .val (.int x4), .val (.int (x0 &&& (3 : Int32))), .val (.ref sg), .val (.ref wk), .val (.int (Int32.ofNat (own_S ii).length)), .val (.int (x1 &&& (3 : Int32))), .val (.int (x3 &&& (255 : Int32))), .val (.ref b29), .unset, .unset, .unset, .unset] [(.int x2)])) _
                      refine X85.ldcInt hx hown (mvT hZ (hw _ (own_m (i := 109) rfl))) (g := (mkF m 277 #[.val (.int x0), .val (.int x1), .val (.int x2), .val (.int x3), .val (.int x4), .val (.int (x0 &&& (3 : Int32))), .val (.ref sg), .val (.ref wk), .val (.int (Int32.ofNat (own_S ii).length)), .val (.int (x1 &&& (3 : Int32))), .val (.int (x3 &&& (255 : Int32))), .val (.ref b29), .unset, .unset, .unset, .unset] [(.int x2)])) rfl (hb hby at_277) _ ?_
                      show Steps p.tables e below (T83.setTop (mkF m 279 #[.val (.int x0), .val (.int x1), .val (.int x2), .val (.int x3), .val (.int x4), .val (.int (x0 &&& (3 : Int32))), .val (.ref sg), .val (.ref wk), .val (.int (Int32.ofNat (own_S ii).length)), .val (.int (x1 &&& (3 : Int32))), .val (.int (x3 &&& (255 : Int32))), .val (.ref b29), .unset, .unset, .unset, .unset] [(.int 2147483647), (.int x2)])) _
                      refine XS.iand X85.here hx rfl (hb hby at_279) rfl ?_
                      show Steps p.tables e below (T83.setTop (mkF m 280 #[.val (.int x0), .val (.int x1), .val (.int x2), .val (.int x3), .val (.int x4), .val (.int (x0 &&& (3 : Int32))), .val (.ref sg), .val (.ref wk), .val (.int (Int32.ofNat (own_S ii).length)), .val (.int (x1 &&& (3 : Int32))), .val (.int (x3 &&& (255 : Int32))), .val (.ref b29), .unset, .unset, .unset, .unset] [(.int (x2 &&& (2147483647 : Int32)))])) _
                      refine XS.iload X85.here hx rfl (hb hby at_280) rfl ?_
                      show Steps p.tables e below (T83.setTop (mkF m 282 #[.val (.int x0), .val (.int x1), .val (.int x2), .val (.int x3), .val (.int x4), .val (.int (x0 &&& (3 : Int32))), .val (.ref sg), .val (.ref wk), .val (.int (Int32.ofNat (own_S ii).length)), .val (.int (x1 &&& (3 : Int32))), .val (.int (x3 &&& (255 : Int32))), .val (.ref b29), .unset, .unset, .unset, .unset] [(.int (Int32.ofNat (own_S ii).length)), (.int (x2 &&& (2147483647 : Int32)))])) _
                      refine iremM X85 hx rfl (hb hby at_282) rfl (own_n0 ii) ?_
                      show Steps p.tables e below (T83.setTop (mkF m 283 #[.val (.int x0), .val (.int x1), .val (.int x2), .val (.int x3), .val (.int x4), .val (.int (x0 &&& (3 : Int32))), .val (.ref sg), .val (.ref wk), .val (.int (Int32.ofNat (own_S ii).length)), .val (.int (x1 &&& (3 : Int32))), .val (.int (x3 &&& (255 : Int32))), .val (.ref b29), .unset, .unset, .unset, .unset] [(.int ((x2 &&& (2147483647 : Int32)) % (Int32.ofNat (own_S ii).length)))])) _
                      rw [epp]
                      show Steps p.tables e below (T83.setTop (mkF m 283 #[.val (.int x0), .val (.int x1), .val (.int x2), .val (.int x3), .val (.int x4), .val (.int (x0 &&& (3 : Int32))), .val (.ref sg), .val (.ref wk), .val (.int (Int32.ofNat (own_S ii).length)), .val (.int (x1 &&& (3 : Int32))), .val (.int (x3 &&& (255 : Int32))), .val (.ref b29), .unset, .unset, .unset, .unset] [(.int (Int32.ofNat pp))])) _
                      refine XS.istore X85.here hx rfl (hb hby at_283) rfl (l' := #[.val (.int x0), .val (.int x1), .val (.int x2), .val (.int x3), .val (.int x4), .val (.int (x0 &&& (3 : Int32))), .val (.ref sg), .val (.ref wk), .val (.int (Int32.ofNat (own_S ii).length)), .val (.int (x1 &&& (3 : Int32))), .val (.int (x3 &&& (255 : Int32))), .val (.ref b29), .unset, .unset, .val (.int (Int32.ofNat pp)), .unset]) rfl ?_
                      show Steps p.tables e below (T83.setTop (mkF m 285 #[.val (.int x0), .val (.int x1), .val (.int x2), .val (.int x3), .val (.int x4), .val (.int (x0 &&& (3 : Int32))), .val (.ref sg), .val (.ref wk), .val (.int (Int32.ofNat (own_S ii).length)), .val (.int (x1 &&& (3 : Int32))), .val (.int (x3 &&& (255 : Int32))), .val (.ref b29), .unset, .unset, .val (.int (Int32.ofNat pp)), .unset] [])) _
                      refine XS.aload X85.here hx rfl (hb hby at_285) rfl rfl ?_
                      show Steps p.tables e below (T83.setTop (mkF m 287 #[.val (.int x0), .val (.int x1), .val (.int x2), .val (.int x3), .val (.int x4), .val (.int (x0 &&& (3 : Int32))), .val (.ref sg), .val (.ref wk), .val (.int (Int32.ofNat (own_S ii).length)), .val (.int (x1 &&& (3 : Int32))), .val (.int (x3 &&& (255 : Int32))), .val (.ref b29), .unset, .unset, .val (.int (Int32.ofNat pp)), .unset] [(.ref b29)])) _
                      refine XS.iload X85.here hx rfl (hb hby at_287) rfl ?_
                      show Steps p.tables e below (T83.setTop (mkF m 289 #[.val (.int x0), .val (.int x1), .val (.int x2), .val (.int x3), .val (.int x4), .val (.int (x0 &&& (3 : Int32))), .val (.ref sg), .val (.ref wk), .val (.int (Int32.ofNat (own_S ii).length)), .val (.int (x1 &&& (3 : Int32))), .val (.int (x3 &&& (255 : Int32))), .val (.ref b29), .unset, .unset, .val (.int (Int32.ofNat pp)), .unset] [(.int (Int32.ofNat pp)), (.ref b29)])) _
                      refine X85.caload hx (j := (Int32.ofNat pp)) (v := (.int ((own_A ii).getD pp 0))) (by rw [e83]; exact Ar96.1) (State.isArrayOf_alike hZ.alike Ar96.2.1) Ar96.2.2 hin96 (H96.at hin96 (by rw [own_tn (own_p14 hpp)]; exact own_mapD (own_A ii) pp)) (g := (mkF m 289 #[.val (.int x0), .val (.int x1), .val (.int x2), .val (.int x3), .val (.int x4), .val (.int (x0 &&& (3 : Int32))), .val (.ref sg), .val (.ref wk), .val (.int (Int32.ofNat (own_S ii).length)), .val (.int (x1 &&& (3 : Int32))), .val (.int (x3 &&& (255 : Int32))), .val (.ref b29), .unset, .unset, .val (.int (Int32.ofNat pp)), .unset] [(.int (Int32.ofNat pp)), (.ref b29)])) rfl rfl (hb hby at_289) _ ?_
                      show Steps p.tables e below (T83.setTop (mkF m 290 #[.val (.int x0), .val (.int x1), .val (.int x2), .val (.int x3), .val (.int x4), .val (.int (x0 &&& (3 : Int32))), .val (.ref sg), .val (.ref wk), .val (.int (Int32.ofNat (own_S ii).length)), .val (.int (x1 &&& (3 : Int32))), .val (.int (x3 &&& (255 : Int32))), .val (.ref b29), .unset, .unset, .val (.int (Int32.ofNat pp)), .unset] [(.int ((own_A ii).getD pp 0))])) _
                      refine XS.istore X85.here hx rfl (hb hby at_290) rfl (l' := #[.val (.int x0), .val (.int x1), .val (.int x2), .val (.int x3), .val (.int x4), .val (.int (x0 &&& (3 : Int32))), .val (.ref sg), .val (.ref wk), .val (.int (Int32.ofNat (own_S ii).length)), .val (.int (x1 &&& (3 : Int32))), .val (.int (x3 &&& (255 : Int32))), .val (.ref b29), .unset, .unset, .val (.int (Int32.ofNat pp)), .val (.int ((own_A ii).getD pp 0))]) rfl ?_
                      show Steps p.tables e below (T83.setTop (mkF m 292 #[.val (.int x0), .val (.int x1), .val (.int x2), .val (.int x3), .val (.int x4), .val (.int (x0 &&& (3 : Int32))), .val (.ref sg), .val (.ref wk), .val (.int (Int32.ofNat (own_S ii).length)), .val (.int (x1 &&& (3 : Int32))), .val (.int (x3 &&& (255 : Int32))), .val (.ref b29), .unset, .unset, .val (.int (Int32.ofNat pp)), .val (.int ((own_A ii).getD pp 0))] [])) _
                      refine XS.aload X85.here hx rfl (hb hby at_292) rfl rfl ?_
                      show Steps p.tables e below (T83.setTop (mkF m 294 #[.val (.int x0), .val (.int x1), .val (.int x2), .val (.int x3), .val (.int x4), .val (.int (x0 &&& (3 : Int32))), .val (.ref sg), .val (.ref wk), .val (.int (Int32.ofNat (own_S ii).length)), .val (.int (x1 &&& (3 : Int32))), .val (.int (x3 &&& (255 : Int32))), .val (.ref b29), .unset, .unset, .val (.int (Int32.ofNat pp)), .val (.int ((own_A ii).getD pp 0))] [(.ref b29)])) _
                      refine XS.iload X85.here hx rfl (hb hby at_294) rfl ?_
                      show Steps p.tables e below (T83.setTop (mkF m 296 #[.val (.int x0), .val (.int x1), .val (.int x2), .val (.int x3), .val (.int x4), .val (.int (x0 &&& (3 : Int32))), .val (.ref sg), .val (.ref wk), .val (.int (Int32.ofNat (own_S ii).length)), .val (.int (x1 &&& (3 : Int32))), .val (.int (x3 &&& (255 : Int32))), .val (.ref b29), .unset, .unset, .val (.int (Int32.ofNat pp)), .val (.int ((own_A ii).getD pp 0))] [(.int (Int32.ofNat pp)), (.ref b29)])) _
                      refine XS.iload X85.here hx rfl (hb hby at_296) rfl ?_
                      show Steps p.tables e below (T83.setTop (mkF m 298 #[.val (.int x0), .val (.int x1), .val (.int x2), .val (.int x3), .val (.int x4), .val (.int (x0 &&& (3 : Int32))), .val (.ref sg), .val (.ref wk), .val (.int (Int32.ofNat (own_S ii).length)), .val (.int (x1 &&& (3 : Int32))), .val (.int (x3 &&& (255 : Int32))), .val (.ref b29), .unset, .unset, .val (.int (Int32.ofNat pp)), .val (.int ((own_A ii).getD pp 0))] [(.int (x3 &&& (255 : Int32))), (.int (Int32.ofNat pp)), (.ref b29)])) _
                      refine st98 _ ?_
                      show Steps p.tables e below (T98.setTop (mkF m 299 #[.val (.int x0), .val (.int x1), .val (.int x2), .val (.int x3), .val (.int x4), .val (.int (x0 &&& (3 : Int32))), .val (.ref sg), .val (.ref wk), .val (.int (Int32.ofNat (own_S ii).length)), .val (.int (x1 &&& (3 : Int32))), .val (.int (x3 &&& (255 : Int32))), .val (.ref b29), .unset, .unset, .val (.int (Int32.ofNat pp)), .val (.int ((own_A ii).getD pp 0))] [])) _
                      refine XS.aload X98.here hx rfl (hb hby at_299) rfl rfl ?_
                      show Steps p.tables e below (T98.setTop (mkF m 301 #[.val (.int x0), .val (.int x1), .val (.int x2), .val (.int x3), .val (.int x4), .val (.int (x0 &&& (3 : Int32))), .val (.ref sg), .val (.ref wk), .val (.int (Int32.ofNat (own_S ii).length)), .val (.int (x1 &&& (3 : Int32))), .val (.int (x3 &&& (255 : Int32))), .val (.ref b29), .unset, .unset, .val (.int (Int32.ofNat pp)), .val (.int ((own_A ii).getD pp 0))] [(.ref b29)])) _
                      refine XS.iload X98.here hx rfl (hb hby at_301) rfl ?_
                      show Steps p.tables e below (T98.setTop (mkF m 303 #[.val (.int x0), .val (.int x1), .val (.int x2), .val (.int x3), .val (.int x4), .val (.int (x0 &&& (3 : Int32))), .val (.ref sg), .val (.ref wk), .val (.int (Int32.ofNat (own_S ii).length)), .val (.int (x1 &&& (3 : Int32))), .val (.int (x3 &&& (255 : Int32))), .val (.ref b29), .unset, .unset, .val (.int (Int32.ofNat pp)), .val (.int ((own_A ii).getD pp 0))] [(.int (Int32.ofNat (own_S ii).length)), (.ref b29)])) _
                      exact k)
                    obtain ⟨_, _, ⟨T100, L100, k100, n100⟩, -, X100, hS100, hg100, ⟨Lc100, hQ100, l100, y100, z100⟩, st100⟩ := callSS X98 hx (y := (⟨"com/example/millrace/millrace/definition/NodeKindOfElementPinLaw", "prefix", "([CI)Ljava/lang/String;"⟩ : MethodName)) hown (mvT hZ (hw _ (own_m (i := 51) rfl))) (mvT hZ (hw _ (own_m (i := 52) rfl))) (mvT hZ (hw _ (own_m (i := 27) rfl))) (mvT hZ (hw _ (own_m (i := 53) rfl))) (by decide) (own_backOfSB (W := 0) (own_prefix l Z a0 hw [] b29 (Int32.ofNat (own_S ii).length) [own_T ii] cz k29 ((own_A ii).set pp (x3 &&& (255 : Int32))) (own_S ii).length h98 n0 Z99 (O) HC hcw (own_noE hii) S0 hcz VA (own_okSet (own_okA hii) _ (own_mask x3)) (own_lenAs ii _ _) rfl (own_l13 ii)) hZ hI (hw _ (own_m (i := 53) rfl)) (hw _ (own_m (i := 27) rfl)) (by decide) (by decide)) (g := (mkF m 303 #[.val (.int x0), .val (.int x1), .val (.int x2), .val (.int x3), .val (.int x4), .val (.int (x0 &&& (3 : Int32))), .val (.ref sg), .val (.ref wk), .val (.int (Int32.ofNat (own_S ii).length)), .val (.int (x1 &&& (3 : Int32))), .val (.int (x3 &&& (255 : Int32))), .val (.ref b29), .unset, .unset, .val (.int (Int32.ofNat pp)), .val (.int ((own_A ii).getD pp 0))] [(.int (Int32.ofNat (own_S ii).length)), (.ref b29)])) rfl (by rw [hml]; rfl) (argsL := [(.ref b29), (.int (Int32.ofNat (own_S ii).length))]) (rest := []) (lenOf own_pd7 rfl) rfl (by show 2 * 0 + _ ≤ _; exact Nat.le_of_eq rfl) (hb hby at_303) (fun _ _ => ⟨rfl, e98, (by decide : 3 + 4 ≤ _), (by decide : 66 + 30 ≤ _)⟩)
                    dsimp only [Pt.U, Pt.locs, Pt.cells, Pt.slots] at X100 l100 y100 z100 st100 hQ100 hS100 hg100
                    subst l100 y100 z100
                    obtain ⟨X100, hS, hZ, hown⟩ := rebS hS (show _ ≤ T98.heap.size by rw [e98]; exact hk) X100 hS100 hg100 hZ hown
                    obtain ⟨sg100, bw100, kw100, rfl, N100q, K100, Ee100, Fc100, Fv100, VB100⟩ := hQ100
                    have N100 := Fr.app N98 N100q
                    have O := O.keep K100 all0
                    have VA := VA.keep K100 nin0
                    have Z102 := Nat.le_trans Z99 K100.1
                    have hk := Nat.le_refl T100.heap.size
                    have pre103 : ∀ t, Steps p.tables e below (T100.setTop (mkF m 312 #[.val (.int x0), .val (.int x1), .val (.int x2), .val (.int x3), .val (.int x4), .val (.int (x0 &&& (3 : Int32))), .val (.ref sg), .val (.ref wk), .val (.int (Int32.ofNat (own_S ii).length)), .val (.int (x1 &&& (3 : Int32))), .val (.int (x3 &&& (255 : Int32))), .val (.ref b29), .val (.ref sg100), .unset, .val (.int (Int32.ofNat pp)), .val (.int ((own_A ii).getD pp 0))] [(.int ((own_A ii).getD pp 0)), (.int (x3 &&& (255 : Int32)))])) t → Steps p.tables e below (s₁.setTop (entryFrame m #[(.int x0), (.int x1), (.int x2), (.int x3), (.int x4)] maxLocals)) t := fun t k => pre101 t (by
                      refine st100.trans ?_
                      show Steps p.tables e below (T100.setTop (mkF m 306 #[.val (.int x0), .val (.int x1), .val (.int x2), .val (.int x3), .val (.int x4), .val (.int (x0 &&& (3 : Int32))), .val (.ref sg), .val (.ref wk), .val (.int (Int32.ofNat (own_S ii).length)), .val (.int (x1 &&& (3 : Int32))), .val (.int (x3 &&& (255 : Int32))), .val (.ref b29), .unset, .unset, .val (.int (Int32.ofNat pp)), .val (.int ((own_A ii).getD pp 0))] [(.ref sg100)])) _
                      refine XS.astore X100.here hx rfl (hb hby at_306) rfl rfl (l' := #[.val (.int x0), .val (.int x1), .val (.int x2), .val (.int x3), .val (.int x4), .val (.int (x0 &&& (3 : Int32))), .val (.ref sg), .val (.ref wk), .val (.int (Int32.ofNat (own_S ii).length)), .val (.int (x1 &&& (3 : Int32))), .val (.int (x3 &&& (255 : Int32))), .val (.ref b29), .val (.ref sg100), .unset, .val (.int (Int32.ofNat pp)), .val (.int ((own_A ii).getD pp 0))]) rfl ?_
                      show Steps p.tables e below (T100.setTop (mkF m 308 #[.val (.int x0), .val (.int x1), .val (.int x2), .val (.int x3), .val (.int x4), .val (.int (x0 &&& (3 : Int32))), .val (.ref sg), .val (.ref wk), .val (.int (Int32.ofNat (own_S ii).length)), .val (.int (x1 &&& (3 : Int32))), .val (.int (x3 &&& (255 : Int32))), .val (.ref b29), .val (.ref sg100), .unset, .val (.int (Int32.ofNat pp)), .val (.int ((own_A ii).getD pp 0))] [])) _
                      refine XS.iload X100.here hx rfl (hb hby at_308) rfl ?_
                      show Steps p.tables e below (T100.setTop (mkF m 310 #[.val (.int x0), .val (.int x1), .val (.int x2), .val (.int x3), .val (.int x4), .val (.int (x0 &&& (3 : Int32))), .val (.ref sg), .val (.ref wk), .val (.int (Int32.ofNat (own_S ii).length)), .val (.int (x1 &&& (3 : Int32))), .val (.int (x3 &&& (255 : Int32))), .val (.ref b29), .val (.ref sg100), .unset, .val (.int (Int32.ofNat pp)), .val (.int ((own_A ii).getD pp 0))] [(.int (x3 &&& (255 : Int32)))])) _
                      refine XS.iload X100.here hx rfl (hb hby at_310) rfl ?_
                      show Steps p.tables e below (T100.setTop (mkF m 312 #[.val (.int x0), .val (.int x1), .val (.int x2), .val (.int x3), .val (.int x4), .val (.int (x0 &&& (3 : Int32))), .val (.ref sg), .val (.ref wk), .val (.int (Int32.ofNat (own_S ii).length)), .val (.int (x1 &&& (3 : Int32))), .val (.int (x3 &&& (255 : Int32))), .val (.ref b29), .val (.ref sg100), .unset, .val (.int (Int32.ofNat pp)), .val (.int ((own_A ii).getD pp 0))] [(.int ((own_A ii).getD pp 0)), (.int (x3 &&& (255 : Int32)))])) _
                      exact k)
                    by_cases hc104 : (x3 &&& (255 : Int32)) = ((own_A ii).getD pp 0)
                    · skip
                      as_aux_lemma =>
                        obtain ⟨_, _, ⟨T105, L105, k105, n105⟩, -, X105, ⟨Lc105, hQ105, l105, y105, z105⟩, st105⟩ := Jvm.LawKit.callS X100 hx (y := (⟨"com/example/millrace/millrace/definition/NodeKind", "ofElement", "(Ljava/lang/String;)Lcom/example/millrace/millrace/definition/NodeKind;"⟩ : MethodName)) hown (mvT hZ (hw _ (own_m (i := 75) rfl))) (mvT hZ (hw _ (own_m (i := 76) rfl))) (mvT hZ (hw _ (own_m (i := 9) rfl))) (mvT hZ (hw _ (own_m (i := 77) rfl))) (by decide) (backOf (W := 0) (own_ofE l Z a0 hw [] sg100 bw100 kw100 (List.take (own_S ii).length ((own_A ii).set pp (x3 &&& (255 : Int32)))) cz va kv w0 w1 w2 w3 sg0 bv0 kb0 sg1 bv1 kb1 sg2 bv2 kb2 sg3 bv3 kb3 T100.heap n0 Z102 Ee100 Fc100 Fv100 VB100 (own_okT (own_okSet (own_okA hii) _ (own_mask x3)) _) (own_lnT (own_lenAs ii _ _) _) (S0.ext O.2) hcz (S_V.ext O.2) (VV.ext O.2) (EV.ext O.2) (Fe0.ext O.2) (Es0.ext O.2) (Fc0.ext O.2) (Fv0.ext O.2) (Vb0.ext O.2) (Fe1.ext O.2) (Es1.ext O.2) (Fc1.ext O.2) (Fv1.ext O.2) (Vb1.ext O.2) (Fe2.ext O.2) (Es2.ext O.2) (Fc2.ext O.2) (Fv2.ext O.2) (Vb2.ext O.2) (Fe3.ext O.2) (Es3.ext O.2) (Fc3.ext O.2) (Fv3.ext O.2) (Vb3.ext O.2)) hZ (hw _ (own_m (i := 77) rfl)) (hw _ (own_m (i := 9) rfl)) (by decide) (by decide)) (g := (mkF m 380 #[.val (.int x0), .val (.int x1), .val (.int x2), .val (.int x3), .val (.int x4), .val (.int (x0 &&& (3 : Int32))), .val (.ref sg), .val (.ref wk), .val (.int (Int32.ofNat (own_S ii).length)), .val (.int (x1 &&& (3 : Int32))), .val (.int (x3 &&& (255 : Int32))), .val (.ref b29), .val (.ref sg100), .val (.ref wk), .val (.int (Int32.ofNat pp)), .val (.int ((own_A ii).getD pp 0))] [(.ref sg100)])) rfl (by rw [hml]; rfl) (argsL := [(.ref sg100)]) (rest := []) (lenOf own_pd8 rfl) rfl (by show 2 * 0 + _ ≤ _; exact Nat.le_of_eq rfl) (hb hby at_380) (fun _ _ => ⟨rfl, rfl, (by decide : 7 + 1 ≤ _), (by decide : 96 + 4 ≤ _)⟩)
                        dsimp only [Pt.U, Pt.locs, Pt.cells, Pt.slots] at X105 l105 y105 z105 st105 hQ105
                        subst l105 y105 z105
                        obtain ⟨rv105, N105q, K105⟩ := hQ105
                        rw [own_k1e w0 w1 w2 w3 hii hc104 hpp, ← hwk] at rv105
                        subst rv105
                        have N105 := Fr.app N100 N105q
                        have O := O.keep K105 all0
                        have VA := VA.keep K105 nin0
                        have hk := Nat.le_trans hk K105.1
                        have Z106 := Nat.le_trans Z102 K105.1
                        obtain ⟨fs, hr, hrun, hended, hRW⟩ := X105.leaveW hS hk (v := some (.int 1)) (fun h => by rw [Bd.returns] at h; cases h)
                        refine ⟨_, _, pre103 _ ?_, hrun, hended, _, _, rfl, ?_, hRW.1, hRW.2.1, hRW.2.2.1, hRW.2.2.2.mono (by decide) (by decide)⟩
                        · refine XS.icmpNo X100.here hx rfl (hb hby at_312) rfl (teq hc104).2 ?_
                          show Steps p.tables e below (T100.setTop (mkF m 315 #[.val (.int x0), .val (.int x1), .val (.int x2), .val (.int x3), .val (.int x4), .val (.int (x0 &&& (3 : Int32))), .val (.ref sg), .val (.ref wk), .val (.int (Int32.ofNat (own_S ii).length)), .val (.int (x1 &&& (3 : Int32))), .val (.int (x3 &&& (255 : Int32))), .val (.ref b29), .val (.ref sg100), .unset, .val (.int (Int32.ofNat pp)), .val (.int ((own_A ii).getD pp 0))] [])) _
                          refine XS.aload X100.here hx rfl (hb hby at_315) rfl rfl ?_
                          show Steps p.tables e below (T100.setTop (mkF m 317 #[.val (.int x0), .val (.int x1), .val (.int x2), .val (.int x3), .val (.int x4), .val (.int (x0 &&& (3 : Int32))), .val (.ref sg), .val (.ref wk), .val (.int (Int32.ofNat (own_S ii).length)), .val (.int (x1 &&& (3 : Int32))), .val (.int (x3 &&& (255 : Int32))), .val (.ref b29), .val (.ref sg100), .unset, .val (.int (Int32.ofNat pp)), .val (.int ((own_A ii).getD pp 0))] [(.ref wk)])) _
                          refine XS.goto X100.here hx rfl (pc0 := 317) (pc' := 321) rfl (hb hby at_317) (by decide) (by decide) ?_
                          show Steps p.tables e below (T100.setTop (mkF m 321 #[.val (.int x0), .val (.int x1), .val (.int x2), .val (.int x3), .val (.int x4), .val (.int (x0 &&& (3 : Int32))), .val (.ref sg), .val (.ref wk), .val (.int (Int32.ofNat (own_S ii).length)), .val (.int (x1 &&& (3 : Int32))), .val (.int (x3 &&& (255 : Int32))), .val (.ref b29), .val (.ref sg100), .unset, .val (.int (Int32.ofNat pp)), .val (.int ((own_A ii).getD pp 0))] [(.ref wk)])) _
                          refine XS.astore X100.here hx rfl (hb hby at_321) rfl rfl (l' := #[.val (.int x0), .val (.int x1), .val (.int x2), .val (.int x3), .val (.int x4), .val (.int (x0 &&& (3 : Int32))), .val (.ref sg), .val (.ref wk), .val (.int (Int32.ofNat (own_S ii).length)), .val (.int (x1 &&& (3 : Int32))), .val (.int (x3 &&& (255 : Int32))), .val (.ref b29), .val (.ref sg100), .val (.ref wk), .val (.int (Int32.ofNat pp)), .val (.int ((own_A ii).getD pp 0))]) rfl ?_
                          show Steps p.tables e below (T100.setTop (mkF m 323 #[.val (.int x0), .val (.int x1), .val (.int x2), .val (.int x3), .val (.int x4), .val (.int (x0 &&& (3 : Int32))), .val (.ref sg), .val (.ref wk), .val (.int (Int32.ofNat (own_S ii).length)), .val (.int (x1 &&& (3 : Int32))), .val (.int (x3 &&& (255 : Int32))), .val (.ref b29), .val (.ref sg100), .val (.ref wk), .val (.int (Int32.ofNat pp)), .val (.int ((own_A ii).getD pp 0))] [])) _
                          refine XS.goto X100.here hx rfl (pc0 := 323) (pc' := 378) rfl (hb hby at_323) (by decide) (by decide) ?_
                          show Steps p.tables e below (T100.setTop (mkF m 378 #[.val (.int x0), .val (.int x1), .val (.int x2), .val (.int x3), .val (.int x4), .val (.int (x0 &&& (3 : Int32))), .val (.ref sg), .val (.ref wk), .val (.int (Int32.ofNat (own_S ii).length)), .val (.int (x1 &&& (3 : Int32))), .val (.int (x3 &&& (255 : Int32))), .val (.ref b29), .val (.ref sg100), .val (.ref wk), .val (.int (Int32.ofNat pp)), .val (.int ((own_A ii).getD pp 0))] [])) _
                          refine XS.aload X100.here hx rfl (hb hby at_378) rfl rfl ?_
                          show Steps p.tables e below (T100.setTop (mkF m 380 #[.val (.int x0), .val (.int x1), .val (.int x2), .val (.int x3), .val (.int x4), .val (.int (x0 &&& (3 : Int32))), .val (.ref sg), .val (.ref wk), .val (.int (Int32.ofNat (own_S ii).length)), .val (.int (x1 &&& (3 : Int32))), .val (.int (x3 &&& (255 : Int32))), .val (.ref b29), .val (.ref sg100), .val (.ref wk), .val (.int (Int32.ofNat pp)), .val (.int ((own_A ii).getD pp 0))] [(.ref sg100)])) _
                          refine st105 _ ?_
                          show Steps p.tables e below (T105.setTop (mkF m 383 #[.val (.int x0), .val (.int x1), .val (.int x2), .val (.int x3), .val (.int x4), .val (.int (x0 &&& (3 : Int32))), .val (.ref sg), .val (.ref wk), .val (.int (Int32.ofNat (own_S ii).length)), .val (.int (x1 &&& (3 : Int32))), .val (.int (x3 &&& (255 : Int32))), .val (.ref b29), .val (.ref sg100), .val (.ref wk), .val (.int (Int32.ofNat pp)), .val (.int ((own_A ii).getD pp 0))] [(.ref wk)])) _
                          refine XS.aload X105.here hx rfl (hb hby at_383) rfl rfl ?_
                          show Steps p.tables e below (T105.setTop (mkF m 385 #[.val (.int x0), .val (.int x1), .val (.int x2), .val (.int x3), .val (.int x4), .val (.int (x0 &&& (3 : Int32))), .val (.ref sg), .val (.ref wk), .val (.int (Int32.ofNat (own_S ii).length)), .val (.int (x1 &&& (3 : Int32))), .val (.int (x3 &&& (255 : Int32))), .val (.ref b29), .val (.ref sg100), .val (.ref wk), .val (.int (Int32.ofNat pp)), .val (.int ((own_A ii).getD pp 0))] [(.ref wk), (.ref wk)])) _
                          refine Jvm.RoadKit.acmp (g := (mkF m 385 #[.val (.int x0), .val (.int x1), .val (.int x2), .val (.int x3), .val (.int x4), .val (.int (x0 &&& (3 : Int32))), .val (.ref sg), .val (.ref wk), .val (.int (Int32.ofNat (own_S ii).length)), .val (.int (x1 &&& (3 : Int32))), .val (.int (x3 &&& (255 : Int32))), .val (.ref b29), .val (.ref sg100), .val (.ref wk), .val (.int (Int32.ofNat pp)), .val (.int ((own_A ii).getD pp 0))] [(.ref wk), (.ref wk)])) X105 hx rfl rfl rfl (pc0 := 385) (pc' := 388) (same := true) rfl (hb hby at_385) rfl (decide_eq_true rfl) (by decide) (by decide) ?_
                          show Steps p.tables e below (T105.setTop (mkF m 388 #[.val (.int x0), .val (.int x1), .val (.int x2), .val (.int x3), .val (.int x4), .val (.int (x0 &&& (3 : Int32))), .val (.ref sg), .val (.ref wk), .val (.int (Int32.ofNat (own_S ii).length)), .val (.int (x1 &&& (3 : Int32))), .val (.int (x3 &&& (255 : Int32))), .val (.ref b29), .val (.ref sg100), .val (.ref wk), .val (.int (Int32.ofNat pp)), .val (.int ((own_A ii).getD pp 0))] [])) _
                          refine XS.iconst X105.here hx rfl (hb hby at_388) ?_
                          show Steps p.tables e below (T105.setTop (mkF m 389 #[.val (.int x0), .val (.int x1), .val (.int x2), .val (.int x3), .val (.int x4), .val (.int (x0 &&& (3 : Int32))), .val (.ref sg), .val (.ref wk), .val (.int (Int32.ofNat (own_S ii).length)), .val (.int (x1 &&& (3 : Int32))), .val (.int (x3 &&& (255 : Int32))), .val (.ref b29), .val (.ref sg100), .val (.ref wk), .val (.int (Int32.ofNat pp)), .val (.int ((own_A ii).getD pp 0))] [(.int 1)])) _
                          refine XS.goto X105.here hx rfl (pc0 := 389) (pc' := 393) rfl (hb hby at_389) (by decide) (by decide) ?_
                          show Steps p.tables e below (T105.setTop (mkF m 393 #[.val (.int x0), .val (.int x1), .val (.int x2), .val (.int x3), .val (.int x4), .val (.int (x0 &&& (3 : Int32))), .val (.ref sg), .val (.ref wk), .val (.int (Int32.ofNat (own_S ii).length)), .val (.int (x1 &&& (3 : Int32))), .val (.int (x3 &&& (255 : Int32))), .val (.ref b29), .val (.ref sg100), .val (.ref wk), .val (.int (Int32.ofNat pp)), .val (.int ((own_A ii).getD pp 0))] [(.int 1)])) _
                          exact retN X105 hx (t := .boolean) Bd.returns (by simp) (hb hby at_393) hr
                        · show own_Q_own_law Z x0 x1 x2 x3 x4 cz fm va kv w0 w1 w2 w3 sg0 bv0 kb0 sg1 bv1 kb1 sg2 bv2 kb2 sg3 bv3 kb3 h0 n0 _ T105.heap _
                          exact ⟨rfl, N105⟩
                    · skip
                      as_aux_lemma =>
                        obtain ⟨_, _, ⟨T107, L107, k107, n107⟩, -, X107, ⟨Lc107, hQ107, l107, y107, z107⟩, st107⟩ := Jvm.LawKit.callS X100 hx (y := (⟨"com/example/millrace/millrace/definition/NodeKind", "ofElement", "(Ljava/lang/String;)Lcom/example/millrace/millrace/definition/NodeKind;"⟩ : MethodName)) hown (mvT hZ (hw _ (own_m (i := 75) rfl))) (mvT hZ (hw _ (own_m (i := 76) rfl))) (mvT hZ (hw _ (own_m (i := 9) rfl))) (mvT hZ (hw _ (own_m (i := 77) rfl))) (by decide) (backOf (W := 0) (own_ofE l Z a0 hw [] sg100 bw100 kw100 (List.take (own_S ii).length ((own_A ii).set pp (x3 &&& (255 : Int32)))) cz va kv w0 w1 w2 w3 sg0 bv0 kb0 sg1 bv1 kb1 sg2 bv2 kb2 sg3 bv3 kb3 T100.heap n0 Z102 Ee100 Fc100 Fv100 VB100 (own_okT (own_okSet (own_okA hii) _ (own_mask x3)) _) (own_lnT (own_lenAs ii _ _) _) (S0.ext O.2) hcz (S_V.ext O.2) (VV.ext O.2) (EV.ext O.2) (Fe0.ext O.2) (Es0.ext O.2) (Fc0.ext O.2) (Fv0.ext O.2) (Vb0.ext O.2) (Fe1.ext O.2) (Es1.ext O.2) (Fc1.ext O.2) (Fv1.ext O.2) (Vb1.ext O.2) (Fe2.ext O.2) (Es2.ext O.2) (Fc2.ext O.2) (Fv2.ext O.2) (Vb2.ext O.2) (Fe3.ext O.2) (Es3.ext O.2) (Fc3.ext O.2) (Fv3.ext O.2) (Vb3.ext O.2)) hZ (hw _ (own_m (i := 77) rfl)) (hw _ (own_m (i := 9) rfl)) (by decide) (by decide)) (g := (mkF m 380 #[.val (.int x0), .val (.int x1), .val (.int x2), .val (.int x3), .val (.int x4), .val (.int (x0 &&& (3 : Int32))), .val (.ref sg), .val (.ref wk), .val (.int (Int32.ofNat (own_S ii).length)), .val (.int (x1 &&& (3 : Int32))), .val (.int (x3 &&& (255 : Int32))), .val (.ref b29), .val (.ref sg100), .val .null, .val (.int (Int32.ofNat pp)), .val (.int ((own_A ii).getD pp 0))] [(.ref sg100)])) rfl (by rw [hml]; rfl) (argsL := [(.ref sg100)]) (rest := []) (lenOf own_pd8 rfl) rfl (by show 2 * 0 + _ ≤ _; exact Nat.le_of_eq rfl) (hb hby at_380) (fun _ _ => ⟨rfl, rfl, (by decide : 7 + 1 ≤ _), (by decide : 96 + 4 ≤ _)⟩)
                        dsimp only [Pt.U, Pt.locs, Pt.cells, Pt.slots] at X107 l107 y107 z107 st107 hQ107
                        subst l107 y107 z107
                        obtain ⟨rv107, N107q, K107⟩ := hQ107
                        rw [own_k1n w0 w1 w2 w3 hii hc104 hpp] at rv107
                        subst rv107
                        have N107 := Fr.app N100 N107q
                        have O := O.keep K107 all0
                        have VA := VA.keep K107 nin0
                        have hk := Nat.le_trans hk K107.1
                        have Z108 := Nat.le_trans Z102 K107.1
                        obtain ⟨fs, hr, hrun, hended, hRW⟩ := X107.leaveW hS hk (v := some (.int 1)) (fun h => by rw [Bd.returns] at h; cases h)
                        refine ⟨_, _, pre103 _ ?_, hrun, hended, _, _, rfl, ?_, hRW.1, hRW.2.1, hRW.2.2.1, hRW.2.2.2.mono (by decide) (by decide)⟩
                        · refine XS.icmpYes X100.here hx rfl (pc0 := 312) (pc' := 320) rfl (hb hby at_312) rfl (feq hc104).2 (by decide) (by decide) ?_
                          show Steps p.tables e below (T100.setTop (mkF m 320 #[.val (.int x0), .val (.int x1), .val (.int x2), .val (.int x3), .val (.int x4), .val (.int (x0 &&& (3 : Int32))), .val (.ref sg), .val (.ref wk), .val (.int (Int32.ofNat (own_S ii).length)), .val (.int (x1 &&& (3 : Int32))), .val (.int (x3 &&& (255 : Int32))), .val (.ref b29), .val (.ref sg100), .unset, .val (.int (Int32.ofNat pp)), .val (.int ((own_A ii).getD pp 0))] [])) _
                          refine XS.aconstNull X100.here hx rfl (hb hby at_320) ?_
                          show Steps p.tables e below (T100.setTop (mkF m 321 #[.val (.int x0), .val (.int x1), .val (.int x2), .val (.int x3), .val (.int x4), .val (.int (x0 &&& (3 : Int32))), .val (.ref sg), .val (.ref wk), .val (.int (Int32.ofNat (own_S ii).length)), .val (.int (x1 &&& (3 : Int32))), .val (.int (x3 &&& (255 : Int32))), .val (.ref b29), .val (.ref sg100), .unset, .val (.int (Int32.ofNat pp)), .val (.int ((own_A ii).getD pp 0))] [.null])) _
                          refine XS.astore X100.here hx rfl (hb hby at_321) rfl rfl (l' := #[.val (.int x0), .val (.int x1), .val (.int x2), .val (.int x3), .val (.int x4), .val (.int (x0 &&& (3 : Int32))), .val (.ref sg), .val (.ref wk), .val (.int (Int32.ofNat (own_S ii).length)), .val (.int (x1 &&& (3 : Int32))), .val (.int (x3 &&& (255 : Int32))), .val (.ref b29), .val (.ref sg100), .val .null, .val (.int (Int32.ofNat pp)), .val (.int ((own_A ii).getD pp 0))]) rfl ?_
                          show Steps p.tables e below (T100.setTop (mkF m 323 #[.val (.int x0), .val (.int x1), .val (.int x2), .val (.int x3), .val (.int x4), .val (.int (x0 &&& (3 : Int32))), .val (.ref sg), .val (.ref wk), .val (.int (Int32.ofNat (own_S ii).length)), .val (.int (x1 &&& (3 : Int32))), .val (.int (x3 &&& (255 : Int32))), .val (.ref b29), .val (.ref sg100), .val .null, .val (.int (Int32.ofNat pp)), .val (.int ((own_A ii).getD pp 0))] [])) _
                          refine XS.goto X100.here hx rfl (pc0 := 323) (pc' := 378) rfl (hb hby at_323) (by decide) (by decide) ?_
                          show Steps p.tables e below (T100.setTop (mkF m 378 #[.val (.int x0), .val (.int x1), .val (.int x2), .val (.int x3), .val (.int x4), .val (.int (x0 &&& (3 : Int32))), .val (.ref sg), .val (.ref wk), .val (.int (Int32.ofNat (own_S ii).length)), .val (.int (x1 &&& (3 : Int32))), .val (.int (x3 &&& (255 : Int32))), .val (.ref b29), .val (.ref sg100), .val .null, .val (.int (Int32.ofNat pp)), .val (.int ((own_A ii).getD pp 0))] [])) _
                          refine XS.aload X100.here hx rfl (hb hby at_378) rfl rfl ?_
                          show Steps p.tables e below (T100.setTop (mkF m 380 #[.val (.int x0), .val (.int x1), .val (.int x2), .val (.int x3), .val (.int x4), .val (.int (x0 &&& (3 : Int32))), .val (.ref sg), .val (.ref wk), .val (.int (Int32.ofNat (own_S ii).length)), .val (.int (x1 &&& (3 : Int32))), .val (.int (x3 &&& (255 : Int32))), .val (.ref b29), .val (.ref sg100), .val .null, .val (.int (Int32.ofNat pp)), .val (.int ((own_A ii).getD pp 0))] [(.ref sg100)])) _
                          refine st107 _ ?_
                          show Steps p.tables e below (T107.setTop (mkF m 383 #[.val (.int x0), .val (.int x1), .val (.int x2), .val (.int x3), .val (.int x4), .val (.int (x0 &&& (3 : Int32))), .val (.ref sg), .val (.ref wk), .val (.int (Int32.ofNat (own_S ii).length)), .val (.int (x1 &&& (3 : Int32))), .val (.int (x3 &&& (255 : Int32))), .val (.ref b29), .val (.ref sg100), .val .null, .val (.int (Int32.ofNat pp)), .val (.int ((own_A ii).getD pp 0))] [.null])) _
                          refine XS.aload X107.here hx rfl (hb hby at_383) rfl rfl ?_
                          show Steps p.tables e below (T107.setTop (mkF m 385 #[.val (.int x0), .val (.int x1), .val (.int x2), .val (.int x3), .val (.int x4), .val (.int (x0 &&& (3 : Int32))), .val (.ref sg), .val (.ref wk), .val (.int (Int32.ofNat (own_S ii).length)), .val (.int (x1 &&& (3 : Int32))), .val (.int (x3 &&& (255 : Int32))), .val (.ref b29), .val (.ref sg100), .val .null, .val (.int (Int32.ofNat pp)), .val (.int ((own_A ii).getD pp 0))] [.null, .null])) _
                          refine Jvm.RoadKit.acmp (g := (mkF m 385 #[.val (.int x0), .val (.int x1), .val (.int x2), .val (.int x3), .val (.int x4), .val (.int (x0 &&& (3 : Int32))), .val (.ref sg), .val (.ref wk), .val (.int (Int32.ofNat (own_S ii).length)), .val (.int (x1 &&& (3 : Int32))), .val (.int (x3 &&& (255 : Int32))), .val (.ref b29), .val (.ref sg100), .val .null, .val (.int (Int32.ofNat pp)), .val (.int ((own_A ii).getD pp 0))] [.null, .null])) X107 hx rfl rfl rfl (pc0 := 385) (pc' := 388) (same := true) rfl (hb hby at_385) rfl (decide_eq_true rfl) (by decide) (by decide) ?_
                          show Steps p.tables e below (T107.setTop (mkF m 388 #[.val (.int x0), .val (.int x1), .val (.int x2), .val (.int x3), .val (.int x4), .val (.int (x0 &&& (3 : Int32))), .val (.ref sg), .val (.ref wk), .val (.int (Int32.ofNat (own_S ii).length)), .val (.int (x1 &&& (3 : Int32))), .val (.int (x3 &&& (255 : Int32))), .val (.ref b29), .val (.ref sg100), .val .null, .val (.int (Int32.ofNat pp)), .val (.int ((own_A ii).getD pp 0))] [])) _
                          refine XS.iconst X107.here hx rfl (hb hby at_388) ?_
                          show Steps p.tables e below (T107.setTop (mkF m 389 #[.val (.int x0), .val (.int x1), .val (.int x2), .val (.int x3), .val (.int x4), .val (.int (x0 &&& (3 : Int32))), .val (.ref sg), .val (.ref wk), .val (.int (Int32.ofNat (own_S ii).length)), .val (.int (x1 &&& (3 : Int32))), .val (.int (x3 &&& (255 : Int32))), .val (.ref b29), .val (.ref sg100), .val .null, .val (.int (Int32.ofNat pp)), .val (.int ((own_A ii).getD pp 0))] [(.int 1)])) _
                          refine XS.goto X107.here hx rfl (pc0 := 389) (pc' := 393) rfl (hb hby at_389) (by decide) (by decide) ?_
                          show Steps p.tables e below (T107.setTop (mkF m 393 #[.val (.int x0), .val (.int x1), .val (.int x2), .val (.int x3), .val (.int x4), .val (.int (x0 &&& (3 : Int32))), .val (.ref sg), .val (.ref wk), .val (.int (Int32.ofNat (own_S ii).length)), .val (.int (x1 &&& (3 : Int32))), .val (.int (x3 &&& (255 : Int32))), .val (.ref b29), .val (.ref sg100), .val .null, .val (.int (Int32.ofNat pp)), .val (.int ((own_A ii).getD pp 0))] [(.int 1)])) _
                          exact retN X107 hx (t := .boolean) Bd.returns (by simp) (hb hby at_393) hr
                        · show own_Q_own_law Z x0 x1 x2 x3 x4 cz fm va kv w0 w1 w2 w3 sg0 bv0 kb0 sg1 bv1 kb1 sg2 bv2 kb2 sg3 bv3 kb3 h0 n0 _ T107.heap _
                          exact ⟨rfl, N107⟩
                · skip
                  as_aux_lemma =>
                    have pre109 : ∀ t, Steps p.tables e below (T83.setTop (mkF m 329 #[.val (.int x0), .val (.int x1), .val (.int x2), .val (.int x3), .val (.int x4), .val (.int (x0 &&& (3 : Int32))), .val (.ref sg), .val (.ref wk), .val (.int (Int32.ofNat (own_S ii).length)), .val (.int (x1 &&& (3 : Int32))), .val (.int (x3 &&& (255 : Int32))), .val (.ref b29), .unset, .unset, .unset, .unset] [(.int 2), (.int (x1 &&& (3 : Int32)))])) t → Steps p.tables e below (s₁.setTop (entryFrame m #[(.int x0), (.int x1), (.int x2), (.int x3), (.int x4)] maxLocals)) t := fun t k => pre94 t (by
                      refine XS.icmpYes X85.here hx rfl (pc0 := 273) (pc' := 326) rfl (hb hby at_273) rfl (feq hc95).2 (by decide) (by decide) ?_
                      show Steps p.tables e below (T83.setTop (mkF m 326 #[.val (.int x0), .val (.int x1), .val (.int x2), .val (.int x3), .val (.int x4), .val (.int (x0 &&& (3 : Int32))), .val (.ref sg), .val (.ref wk), .val (.int (Int32.ofNat (own_S ii).length)), .val (.int (x1 &&& (3 : Int32))), .val (.int (x3 &&& (255 : Int32))), .val (.ref b29), .unset, .unset, .unset, .unset] [])) _
                      refine XS.iload X85.here hx rfl (hb hby at_326) rfl ?_
                      show Steps p.tables e below (T83.setTop (mkF m 328 #[.val (.int x0), .val (.int x1), .val (.int x2), .val (.int x3), .val (.int x4), .val (.int (x0 &&& (3 : Int32))), .val (.ref sg), .val (.ref wk), .val (.int (Int32.ofNat (own_S ii).length)), .val (.int (x1 &&& (3 : Int32))), .val (.int (x3 &&& (255 : Int32))), .val (.ref b29), .unset, .unset, .unset, .unset] [(.int (x1 &&& (3 : Int32)))])) _
                      refine XS.iconst X85.here hx rfl (hb hby at_328) ?_
                      show Steps p.tables e below (T83.setTop (mkF m 329 #[.val (.int x0), .val (.int x1), .val (.int x2), .val (.int x3), .val (.int x4), .val (.int (x0 &&& (3 : Int32))), .val (.ref sg), .val (.ref wk), .val (.int (Int32.ofNat (own_S ii).length)), .val (.int (x1 &&& (3 : Int32))), .val (.int (x3 &&& (255 : Int32))), .val (.ref b29), .unset, .unset, .unset, .unset] [(.int 2), (.int (x1 &&& (3 : Int32)))])) _
                      exact k)
                    by_cases hc110 : (x1 &&& (3 : Int32)) = (2 : Int32)
                    · skip
                      as_aux_lemma =>
                        obtain ⟨pp, hpp, epp⟩ := own_rem x4 ii
                        have pre112 : ∀ t, Steps p.tables e below (T83.setTop (mkF m 346 #[.val (.int x0), .val (.int x1), .val (.int x2), .val (.int x3), .val (.int x4), .val (.int (x0 &&& (3 : Int32))), .val (.ref sg), .val (.ref wk), .val (.int (Int32.ofNat (own_S ii).length)), .val (.int (x1 &&& (3 : Int32))), .val (.int (x3 &&& (255 : Int32))), .val (.ref b29), .unset, .unset, .val (.int (Int32.ofNat pp)), .unset] [(.int (Int32.ofNat pp)), (.ref b29)])) t → Steps p.tables e below (s₁.setTop (entryFrame m #[(.int x0), (.int x1), (.int x2), (.int x3), (.int x4)] maxLocals)) t := fun t k => pre109 t (by
                          refine XS.icmpNo X85.here hx rfl (hb hby at_329) rfl (teq hc110).2 ?_
                          show Steps p.tables e below (T83.setTop (mkF m 332 #[.val (.int x0), .val (.int x1), .val (.int x2), .val (.int x3), .val (.int x4), .val (.int (x0 &&& (3 : Int32))), .val (.ref sg), .val (.ref wk), .val (.int (Int32.ofNat (own_S ii).length)), .val (.int (x1 &&& (3 : Int32))), .val (.int (x3 &&& (255 : Int32))), .val (.ref b29), .unset, .unset, .unset, .unset] [])) _
                          refine XS.iload X85.here hx rfl (hb hby at_332) rfl ?_
                          show Steps p.tables e below (T83.setTop (mkF m 334 #[.val (.int x0), .val (.int x1), .val (.int x2), .val (.int x3), .val (.int x4), .val (.int (x0 &&& (3 : Int32))), .val (.ref sg), .val (.ref wk), .val (.int (Int32.ofNat (own_S ii).length)), .val (.int (x1 &&& (3 : Int32))), .val (.int (x3 &&& (255 : Int32))), .val (.ref b29), .unset, .unset, .unset, .unset] [(.int x4)])) _
                          refine X85.ldcInt hx hown (mvT hZ (hw _ (own_m (i := 109) rfl))) (g := (mkF m 334 #[.val (.int x0), .val (.int x1), .val (.int x2), .val (.int x3), .val (.int x4), .val (.int (x0 &&& (3 : Int32))), .val (.ref sg), .val (.ref wk), .val (.int (Int32.ofNat (own_S ii).length)), .val (.int (x1 &&& (3 : Int32))), .val (.int (x3 &&& (255 : Int32))), .val (.ref b29), .unset, .unset, .unset, .unset] [(.int x4)])) rfl (hb hby at_334) _ ?_
                          show Steps p.tables e below (T83.setTop (mkF m 336 #[.val (.int x0), .val (.int x1), .val (.int x2), .val (.int x3), .val (.int x4), .val (.int (x0 &&& (3 : Int32))), .val (.ref sg), .val (.ref wk), .val (.int (Int32.ofNat (own_S ii).length)), .val (.int (x1 &&& (3 : Int32))), .val (.int (x3 &&& (255 : Int32))), .val (.ref b29), .unset, .unset, .unset, .unset] [(.int 2147483647), (.int x4)])) _
                          refine XS.iand X85.here hx rfl (hb hby at_336) rfl ?_
                          show Steps p.tables e below (T83.setTop (mkF m 337 #[.val (.int x0), .val (.int x1), .val (.int x2), .val (.int x3), .val (.int x4), .val (.int (x0 &&& (3 : Int32))), .val (.ref sg), .val (.ref wk), .val (.int (Int32.ofNat (own_S ii).length)), .val (.int (x1 &&& (3 : Int32))), .val (.int (x3 &&& (255 : Int32))), .val (.ref b29), .unset, .unset, .unset, .unset] [(.int (x4 &&& (2147483647 : Int32)))])) _
                          refine XS.iload X85.here hx rfl (hb hby at_337) rfl ?_
                          show Steps p.tables e below (T83.setTop (mkF m 339 #[.val (.int x0), .val (.int x1), .val (.int x2), .val (.int x3), .val (.int x4), .val (.int (x0 &&& (3 : Int32))), .val (.ref sg), .val (.ref wk), .val (.int (Int32.ofNat (own_S ii).length)), .val (.int (x1 &&& (3 : Int32))), .val (.int (x3 &&& (255 : Int32))), .val (.ref b29), .unset, .unset, .unset, .unset] [(.int (Int32.ofNat (own_S ii).length)), (.int (x4 &&& (2147483647 : Int32)))])) _
                          refine iremM X85 hx rfl (hb hby at_339) rfl (own_n0 ii) ?_
                          show Steps p.tables e below (T83.setTop (mkF m 340 #[.val (.int x0), .val (.int x1), .val (.int x2), .val (.int x3), .val (.int x4), .val (.int (x0 &&& (3 : Int32))), .val (.ref sg), .val (.ref wk), .val (.int (Int32.ofNat (own_S ii).length)), .val (.int (x1 &&& (3 : Int32))), .val (.int (x3 &&& (255 : Int32))), .val (.ref b29), .unset, .unset, .unset, .unset] [(.int ((x4 &&& (2147483647 : Int32)) % (Int32.ofNat (own_S ii).length)))])) _
                          rw [epp]
                          show Steps p.tables e below (T83.setTop (mkF m 340 #[.val (.int x0), .val (.int x1), .val (.int x2), .val (.int x3), .val (.int x4), .val (.int (x0 &&& (3 : Int32))), .val (.ref sg), .val (.ref wk), .val (.int (Int32.ofNat (own_S ii).length)), .val (.int (x1 &&& (3 : Int32))), .val (.int (x3 &&& (255 : Int32))), .val (.ref b29), .unset, .unset, .unset, .unset] [(.int (Int32.ofNat pp))])) _
                          refine XS.istore X85.here hx rfl (hb hby at_340) rfl (l' := #[.val (.int x0), .val (.int x1), .val (.int x2), .val (.int x3), .val (.int x4), .val (.int (x0 &&& (3 : Int32))), .val (.ref sg), .val (.ref wk), .val (.int (Int32.ofNat (own_S ii).length)), .val (.int (x1 &&& (3 : Int32))), .val (.int (x3 &&& (255 : Int32))), .val (.ref b29), .unset, .unset, .val (.int (Int32.ofNat pp)), .unset]) rfl ?_
                          show Steps p.tables e below (T83.setTop (mkF m 342 #[.val (.int x0), .val (.int x1), .val (.int x2), .val (.int x3), .val (.int x4), .val (.int (x0 &&& (3 : Int32))), .val (.ref sg), .val (.ref wk), .val (.int (Int32.ofNat (own_S ii).length)), .val (.int (x1 &&& (3 : Int32))), .val (.int (x3 &&& (255 : Int32))), .val (.ref b29), .unset, .unset, .val (.int (Int32.ofNat pp)), .unset] [])) _
                          refine XS.aload X85.here hx rfl (hb hby at_342) rfl rfl ?_
                          show Steps p.tables e below (T83.setTop (mkF m 344 #[.val (.int x0), .val (.int x1), .val (.int x2), .val (.int x3), .val (.int x4), .val (.int (x0 &&& (3 : Int32))), .val (.ref sg), .val (.ref wk), .val (.int (Int32.ofNat (own_S ii).length)), .val (.int (x1 &&& (3 : Int32))), .val (.int (x3 &&& (255 : Int32))), .val (.ref b29), .unset, .unset, .val (.int (Int32.ofNat pp)), .unset] [(.ref b29)])) _
                          refine XS.iload X85.here hx rfl (hb hby at_344) rfl ?_
                          show Steps p.tables e below (T83.setTop (mkF m 346 #[.val (.int x0), .val (.int x1), .val (.int x2), .val (.int x3), .val (.int x4), .val (.int (x0 &&& (3 : Int32))), .val (.ref sg), .val (.ref wk), .val (.int (Int32.ofNat (own_S ii).length)), .val (.int (x1 &&& (3 : Int32))), .val (.int (x3 &&& (255 : Int32))), .val (.ref b29), .unset, .unset, .val (.int (Int32.ofNat pp)), .unset] [(.int (Int32.ofNat pp)), (.ref b29)])) _
                          exact k)
                        obtain ⟨_, _, ⟨T111, L111, k111, n111⟩, -, X111, hS111, hg111, ⟨Lc111, hQ111, l111, y111, z111⟩, st111⟩ := callSS X85 hx (y := (⟨"com/example/millrace/millrace/definition/NodeKindOfElementPinLaw", "prefix", "([CI)Ljava/lang/String;"⟩ : MethodName)) hown (mvT hZ (hw _ (own_m (i := 51) rfl))) (mvT hZ (hw _ (own_m (i := 52) rfl))) (mvT hZ (hw _ (own_m (i := 27) rfl))) (mvT hZ (hw _ (own_m (i := 53) rfl))) (by decide) (own_backOfSB (W := 0) (own_prefix l Z a0 hw [] b29 (Int32.ofNat pp) [own_T ii] cz k29 (own_A ii) pp h83 n0 Z84 (O) HC hcw (own_noE hii) S0 hcz VA (own_okA hii) (own_lenA ii) rfl (Nat.le_of_lt_succ (own_p14 hpp))) hZ hI (hw _ (own_m (i := 53) rfl)) (hw _ (own_m (i := 27) rfl)) (by decide) (by decide)) (g := (mkF m 346 #[.val (.int x0), .val (.int x1), .val (.int x2), .val (.int x3), .val (.int x4), .val (.int (x0 &&& (3 : Int32))), .val (.ref sg), .val (.ref wk), .val (.int (Int32.ofNat (own_S ii).length)), .val (.int (x1 &&& (3 : Int32))), .val (.int (x3 &&& (255 : Int32))), .val (.ref b29), .unset, .unset, .val (.int (Int32.ofNat pp)), .unset] [(.int (Int32.ofNat pp)), (.ref b29)])) rfl (by rw [hml]; rfl) (argsL := [(.ref b29), (.int (Int32.ofNat pp))]) (rest := []) (lenOf own_pd7 rfl) rfl (by show 2 * 0 + _ ≤ _; exact Nat.le_of_eq rfl) (hb hby at_346) (fun _ _ => ⟨rfl, e83, (by decide : 3 + 4 ≤ _), (by decide : 66 + 30 ≤ _)⟩)
                        dsimp only [Pt.U, Pt.locs, Pt.cells, Pt.slots] at X111 l111 y111 z111 st111 hQ111 hS111 hg111
                        subst l111 y111 z111
                        obtain ⟨X111, hS, hZ, hown⟩ := rebS hS (show _ ≤ T83.heap.size by rw [e83]; exact hk) X111 hS111 hg111 hZ hown
                        obtain ⟨sg111, bw111, kw111, rfl, N111q, K111, Ee111, Fc111, Fv111, VB111⟩ := hQ111
                        have N111 := Fr.app N85 N111q
                        have O := O.keep K111 all0
                        have VA := VA.keep K111 nin0
                        have Z113 := Nat.le_trans Z84 K111.1
                        have hk := Nat.le_refl T111.heap.size
                        obtain ⟨_, _, ⟨T114, L114, k114, n114⟩, -, X114, ⟨Lc114, hQ114, l114, y114, z114⟩, st114⟩ := Jvm.LawKit.callS X111 hx (y := (⟨"com/example/millrace/millrace/definition/NodeKind", "ofElement", "(Ljava/lang/String;)Lcom/example/millrace/millrace/definition/NodeKind;"⟩ : MethodName)) hown (mvT hZ (hw _ (own_m (i := 75) rfl))) (mvT hZ (hw _ (own_m (i := 76) rfl))) (mvT hZ (hw _ (own_m (i := 9) rfl))) (mvT hZ (hw _ (own_m (i := 77) rfl))) (by decide) (backOf (W := 0) (own_ofE l Z a0 hw [] sg111 bw111 kw111 (List.take pp (own_A ii)) cz va kv w0 w1 w2 w3 sg0 bv0 kb0 sg1 bv1 kb1 sg2 bv2 kb2 sg3 bv3 kb3 T111.heap n0 Z113 Ee111 Fc111 Fv111 VB111 (own_okT (own_okA hii) _) (own_lnT (own_lenA ii) _) (S0.ext O.2) hcz (S_V.ext O.2) (VV.ext O.2) (EV.ext O.2) (Fe0.ext O.2) (Es0.ext O.2) (Fc0.ext O.2) (Fv0.ext O.2) (Vb0.ext O.2) (Fe1.ext O.2) (Es1.ext O.2) (Fc1.ext O.2) (Fv1.ext O.2) (Vb1.ext O.2) (Fe2.ext O.2) (Es2.ext O.2) (Fc2.ext O.2) (Fv2.ext O.2) (Vb2.ext O.2) (Fe3.ext O.2) (Es3.ext O.2) (Fc3.ext O.2) (Fv3.ext O.2) (Vb3.ext O.2)) hZ (hw _ (own_m (i := 77) rfl)) (hw _ (own_m (i := 9) rfl)) (by decide) (by decide)) (g := (mkF m 380 #[.val (.int x0), .val (.int x1), .val (.int x2), .val (.int x3), .val (.int x4), .val (.int (x0 &&& (3 : Int32))), .val (.ref sg), .val (.ref wk), .val (.int (Int32.ofNat (own_S ii).length)), .val (.int (x1 &&& (3 : Int32))), .val (.int (x3 &&& (255 : Int32))), .val (.ref b29), .val (.ref sg111), .val .null, .val (.int (Int32.ofNat pp)), .unset] [(.ref sg111)])) rfl (by rw [hml]; rfl) (argsL := [(.ref sg111)]) (rest := []) (lenOf own_pd8 rfl) rfl (by show 2 * 0 + _ ≤ _; exact Nat.le_of_eq rfl) (hb hby at_380) (fun _ _ => ⟨rfl, rfl, (by decide : 7 + 1 ≤ _), (by decide : 96 + 4 ≤ _)⟩)
                        dsimp only [Pt.U, Pt.locs, Pt.cells, Pt.slots] at X114 l114 y114 z114 st114 hQ114
                        subst l114 y114 z114
                        obtain ⟨rv114, N114q, K114⟩ := hQ114
                        rw [own_k2 w0 w1 w2 w3 hii hpp] at rv114
                        subst rv114
                        have N114 := Fr.app N111 N114q
                        have O := O.keep K114 all0
                        have VA := VA.keep K114 nin0
                        have hk := Nat.le_trans hk K114.1
                        have Z115 := Nat.le_trans Z113 K114.1
                        obtain ⟨fs, hr, hrun, hended, hRW⟩ := X114.leaveW hS hk (v := some (.int 1)) (fun h => by rw [Bd.returns] at h; cases h)
                        refine ⟨_, _, pre112 _ ?_, hrun, hended, _, _, rfl, ?_, hRW.1, hRW.2.1, hRW.2.2.1, hRW.2.2.2.mono (by decide) (by decide)⟩
                        · refine st111.trans ?_
                          show Steps p.tables e below (T111.setTop (mkF m 349 #[.val (.int x0), .val (.int x1), .val (.int x2), .val (.int x3), .val (.int x4), .val (.int (x0 &&& (3 : Int32))), .val (.ref sg), .val (.ref wk), .val (.int (Int32.ofNat (own_S ii).length)), .val (.int (x1 &&& (3 : Int32))), .val (.int (x3 &&& (255 : Int32))), .val (.ref b29), .unset, .unset, .val (.int (Int32.ofNat pp)), .unset] [(.ref sg111)])) _
                          refine XS.astore X111.here hx rfl (hb hby at_349) rfl rfl (l' := #[.val (.int x0), .val (.int x1), .val (.int x2), .val (.int x3), .val (.int x4), .val (.int (x0 &&& (3 : Int32))), .val (.ref sg), .val (.ref wk), .val (.int (Int32.ofNat (own_S ii).length)), .val (.int (x1 &&& (3 : Int32))), .val (.int (x3 &&& (255 : Int32))), .val (.ref b29), .val (.ref sg111), .unset, .val (.int (Int32.ofNat pp)), .unset]) rfl ?_
                          show Steps p.tables e below (T111.setTop (mkF m 351 #[.val (.int x0), .val (.int x1), .val (.int x2), .val (.int x3), .val (.int x4), .val (.int (x0 &&& (3 : Int32))), .val (.ref sg), .val (.ref wk), .val (.int (Int32.ofNat (own_S ii).length)), .val (.int (x1 &&& (3 : Int32))), .val (.int (x3 &&& (255 : Int32))), .val (.ref b29), .val (.ref sg111), .unset, .val (.int (Int32.ofNat pp)), .unset] [])) _
                          refine XS.aconstNull X111.here hx rfl (hb hby at_351) ?_
                          show Steps p.tables e below (T111.setTop (mkF m 352 #[.val (.int x0), .val (.int x1), .val (.int x2), .val (.int x3), .val (.int x4), .val (.int (x0 &&& (3 : Int32))), .val (.ref sg), .val (.ref wk), .val (.int (Int32.ofNat (own_S ii).length)), .val (.int (x1 &&& (3 : Int32))), .val (.int (x3 &&& (255 : Int32))), .val (.ref b29), .val (.ref sg111), .unset, .val (.int (Int32.ofNat pp)), .unset] [.null])) _
                          refine XS.astore X111.here hx rfl (hb hby at_352) rfl rfl (l' := #[.val (.int x0), .val (.int x1), .val (.int x2), .val (.int x3), .val (.int x4), .val (.int (x0 &&& (3 : Int32))), .val (.ref sg), .val (.ref wk), .val (.int (Int32.ofNat (own_S ii).length)), .val (.int (x1 &&& (3 : Int32))), .val (.int (x3 &&& (255 : Int32))), .val (.ref b29), .val (.ref sg111), .val .null, .val (.int (Int32.ofNat pp)), .unset]) rfl ?_
                          show Steps p.tables e below (T111.setTop (mkF m 354 #[.val (.int x0), .val (.int x1), .val (.int x2), .val (.int x3), .val (.int x4), .val (.int (x0 &&& (3 : Int32))), .val (.ref sg), .val (.ref wk), .val (.int (Int32.ofNat (own_S ii).length)), .val (.int (x1 &&& (3 : Int32))), .val (.int (x3 &&& (255 : Int32))), .val (.ref b29), .val (.ref sg111), .val .null, .val (.int (Int32.ofNat pp)), .unset] [])) _
                          refine XS.goto X111.here hx rfl (pc0 := 354) (pc' := 378) rfl (hb hby at_354) (by decide) (by decide) ?_
                          show Steps p.tables e below (T111.setTop (mkF m 378 #[.val (.int x0), .val (.int x1), .val (.int x2), .val (.int x3), .val (.int x4), .val (.int (x0 &&& (3 : Int32))), .val (.ref sg), .val (.ref wk), .val (.int (Int32.ofNat (own_S ii).length)), .val (.int (x1 &&& (3 : Int32))), .val (.int (x3 &&& (255 : Int32))), .val (.ref b29), .val (.ref sg111), .val .null, .val (.int (Int32.ofNat pp)), .unset] [])) _
                          refine XS.aload X111.here hx rfl (hb hby at_378) rfl rfl ?_
                          show Steps p.tables e below (T111.setTop (mkF m 380 #[.val (.int x0), .val (.int x1), .val (.int x2), .val (.int x3), .val (.int x4), .val (.int (x0 &&& (3 : Int32))), .val (.ref sg), .val (.ref wk), .val (.int (Int32.ofNat (own_S ii).length)), .val (.int (x1 &&& (3 : Int32))), .val (.int (x3 &&& (255 : Int32))), .val (.ref b29), .val (.ref sg111), .val .null, .val (.int (Int32.ofNat pp)), .unset] [(.ref sg111)])) _
                          refine st114 _ ?_
                          show Steps p.tables e below (T114.setTop (mkF m 383 #[.val (.int x0), .val (.int x1), .val (.int x2), .val (.int x3), .val (.int x4), .val (.int (x0 &&& (3 : Int32))), .val (.ref sg), .val (.ref wk), .val (.int (Int32.ofNat (own_S ii).length)), .val (.int (x1 &&& (3 : Int32))), .val (.int (x3 &&& (255 : Int32))), .val (.ref b29), .val (.ref sg111), .val .null, .val (.int (Int32.ofNat pp)), .unset] [.null])) _
                          refine XS.aload X114.here hx rfl (hb hby at_383) rfl rfl ?_
                          show Steps p.tables e below (T114.setTop (mkF m 385 #[.val (.int x0), .val (.int x1), .val (.int x2), .val (.int x3), .val (.int x4), .val (.int (x0 &&& (3 : Int32))), .val (.ref sg), .val (.ref wk), .val (.int (Int32.ofNat (own_S ii).length)), .val (.int (x1 &&& (3 : Int32))), .val (.int (x3 &&& (255 : Int32))), .val (.ref b29), .val (.ref sg111), .val .null, .val (.int (Int32.ofNat pp)), .unset] [.null, .null])) _
                          refine Jvm.RoadKit.acmp (g := (mkF m 385 #[.val (.int x0), .val (.int x1), .val (.int x2), .val (.int x3), .val (.int x4), .val (.int (x0 &&& (3 : Int32))), .val (.ref sg), .val (.ref wk), .val (.int (Int32.ofNat (own_S ii).length)), .val (.int (x1 &&& (3 : Int32))), .val (.int (x3 &&& (255 : Int32))), .val (.ref b29), .val (.ref sg111), .val .null, .val (.int (Int32.ofNat pp)), .unset] [.null, .null])) X114 hx rfl rfl rfl (pc0 := 385) (pc' := 388) (same := true) rfl (hb hby at_385) rfl (decide_eq_true rfl) (by decide) (by decide) ?_
                          show Steps p.tables e below (T114.setTop (mkF m 388 #[.val (.int x0), .val (.int x1), .val (.int x2), .val (.int x3), .val (.int x4), .val (.int (x0 &&& (3 : Int32))), .val (.ref sg), .val (.ref wk), .val (.int (Int32.ofNat (own_S ii).length)), .val (.int (x1 &&& (3 : Int32))), .val (.int (x3 &&& (255 : Int32))), .val (.ref b29), .val (.ref sg111), .val .null, .val (.int (Int32.ofNat pp)), .unset] [])) _
                          refine XS.iconst X114.here hx rfl (hb hby at_388) ?_
                          show Steps p.tables e below (T114.setTop (mkF m 389 #[.val (.int x0), .val (.int x1), .val (.int x2), .val (.int x3), .val (.int x4), .val (.int (x0 &&& (3 : Int32))), .val (.ref sg), .val (.ref wk), .val (.int (Int32.ofNat (own_S ii).length)), .val (.int (x1 &&& (3 : Int32))), .val (.int (x3 &&& (255 : Int32))), .val (.ref b29), .val (.ref sg111), .val .null, .val (.int (Int32.ofNat pp)), .unset] [(.int 1)])) _
                          refine XS.goto X114.here hx rfl (pc0 := 389) (pc' := 393) rfl (hb hby at_389) (by decide) (by decide) ?_
                          show Steps p.tables e below (T114.setTop (mkF m 393 #[.val (.int x0), .val (.int x1), .val (.int x2), .val (.int x3), .val (.int x4), .val (.int (x0 &&& (3 : Int32))), .val (.ref sg), .val (.ref wk), .val (.int (Int32.ofNat (own_S ii).length)), .val (.int (x1 &&& (3 : Int32))), .val (.int (x3 &&& (255 : Int32))), .val (.ref b29), .val (.ref sg111), .val .null, .val (.int (Int32.ofNat pp)), .unset] [(.int 1)])) _
                          exact retN X114 hx (t := .boolean) Bd.returns (by simp) (hb hby at_393) hr
                        · show own_Q_own_law Z x0 x1 x2 x3 x4 cz fm va kv w0 w1 w2 w3 sg0 bv0 kb0 sg1 bv1 kb1 sg2 bv2 kb2 sg3 bv3 kb3 h0 n0 _ T114.heap _
                          exact ⟨rfl, N114⟩
                    · skip
                      as_aux_lemma =>
                        obtain ⟨cl116, Ar116, q116, S116, M116, H116, G116⟩ := id VA
                        have hin116 : ¬ ((Int32.ofNat (own_S ii).length) < 0 ∨ cl116.slots.size ≤ ((Int32.ofNat (own_S ii).length)).toNatClampNeg) := inb_of S116 (own_ib (Nat.lt_of_le_of_lt (own_len ii).2 (by decide : 12 < 14)))
                        obtain ⟨T117, h117, X117, e117, W117, st117⟩ := stC X85 hx hZ e83 Ar116 (j := (Int32.ofNat (own_S ii).length)) hin116 (g := (mkF m 363 #[.val (.int x0), .val (.int x1), .val (.int x2), .val (.int x3), .val (.int x4), .val (.int (x0 &&& (3 : Int32))), .val (.ref sg), .val (.ref wk), .val (.int (Int32.ofNat (own_S ii).length)), .val (.int (x1 &&& (3 : Int32))), .val (.int (x3 &&& (255 : Int32))), .val (.ref b29), .unset, .unset, .unset, .unset] [(.int (x3 &&& (255 : Int32))), (.int (Int32.ofNat (own_S ii).length)), (.ref b29)])) rfl rfl (hb hby at_363)
                        have O := O.wr W117 g_b29
                        have hk := Nat.le_trans hk (Keep.of_wr W117).1
                        have Z118 : n0 ≤ h117.size := Nat.le_trans Z84 (Keep.of_wr W117).1
                        have VA : Arv Z h117 b29 k29 .char (14 : Int32) (List.map Value.int ((own_A ii).set (own_S ii).length (x3 &&& (255 : Int32)))) (.int 0) := own_setC Ar116 q116 S116 M116 H116 G116 W117 (i2c_mask _) (own_S ii).length (own_tn (Nat.lt_of_le_of_lt (own_len ii).2 (by decide : 12 < 14))) (Nat.lt_of_le_of_lt (own_len ii).2 (by decide : 12 < 14))
                        have N117 := Fr.snoc X117 N85 g_b29
                        have pre120 : ∀ t, Steps p.tables e below (T117.setTop (mkF m 370 #[.val (.int x0), .val (.int x1), .val (.int x2), .val (.int x3), .val (.int x4), .val (.int (x0 &&& (3 : Int32))), .val (.ref sg), .val (.ref wk), .val (.int (Int32.ofNat (own_S ii).length)), .val (.int (x1 &&& (3 : Int32))), .val (.int (x3 &&& (255 : Int32))), .val (.ref b29), .unset, .unset, .unset, .unset] [(.int ((Int32.ofNat (own_S ii).length) + (1 : Int32))), (.ref b29)])) t → Steps p.tables e below (s₁.setTop (entryFrame m #[(.int x0), (.int x1), (.int x2), (.int x3), (.int x4)] maxLocals)) t := fun t k => pre109 t (by
                          refine XS.icmpYes X85.here hx rfl (pc0 := 329) (pc' := 357) rfl (hb hby at_329) rfl (feq hc110).2 (by decide) (by decide) ?_
                          show Steps p.tables e below (T83.setTop (mkF m 357 #[.val (.int x0), .val (.int x1), .val (.int x2), .val (.int x3), .val (.int x4), .val (.int (x0 &&& (3 : Int32))), .val (.ref sg), .val (.ref wk), .val (.int (Int32.ofNat (own_S ii).length)), .val (.int (x1 &&& (3 : Int32))), .val (.int (x3 &&& (255 : Int32))), .val (.ref b29), .unset, .unset, .unset, .unset] [])) _
                          refine XS.aload X85.here hx rfl (hb hby at_357) rfl rfl ?_
                          show Steps p.tables e below (T83.setTop (mkF m 359 #[.val (.int x0), .val (.int x1), .val (.int x2), .val (.int x3), .val (.int x4), .val (.int (x0 &&& (3 : Int32))), .val (.ref sg), .val (.ref wk), .val (.int (Int32.ofNat (own_S ii).length)), .val (.int (x1 &&& (3 : Int32))), .val (.int (x3 &&& (255 : Int32))), .val (.ref b29), .unset, .unset, .unset, .unset] [(.ref b29)])) _
                          refine XS.iload X85.here hx rfl (hb hby at_359) rfl ?_
                          show Steps p.tables e below (T83.setTop (mkF m 361 #[.val (.int x0), .val (.int x1), .val (.int x2), .val (.int x3), .val (.int x4), .val (.int (x0 &&& (3 : Int32))), .val (.ref sg), .val (.ref wk), .val (.int (Int32.ofNat (own_S ii).length)), .val (.int (x1 &&& (3 : Int32))), .val (.int (x3 &&& (255 : Int32))), .val (.ref b29), .unset, .unset, .unset, .unset] [(.int (Int32.ofNat (own_S ii).length)), (.ref b29)])) _
                          refine XS.iload X85.here hx rfl (hb hby at_361) rfl ?_
                          show Steps p.tables e below (T83.setTop (mkF m 363 #[.val (.int x0), .val (.int x1), .val (.int x2), .val (.int x3), .val (.int x4), .val (.int (x0 &&& (3 : Int32))), .val (.ref sg), .val (.ref wk), .val (.int (Int32.ofNat (own_S ii).length)), .val (.int (x1 &&& (3 : Int32))), .val (.int (x3 &&& (255 : Int32))), .val (.ref b29), .unset, .unset, .unset, .unset] [(.int (x3 &&& (255 : Int32))), (.int (Int32.ofNat (own_S ii).length)), (.ref b29)])) _
                          refine st117 _ ?_
                          show Steps p.tables e below (T117.setTop (mkF m 364 #[.val (.int x0), .val (.int x1), .val (.int x2), .val (.int x3), .val (.int x4), .val (.int (x0 &&& (3 : Int32))), .val (.ref sg), .val (.ref wk), .val (.int (Int32.ofNat (own_S ii).length)), .val (.int (x1 &&& (3 : Int32))), .val (.int (x3 &&& (255 : Int32))), .val (.ref b29), .unset, .unset, .unset, .unset] [])) _
                          refine XS.aload X117.here hx rfl (hb hby at_364) rfl rfl ?_
                          show Steps p.tables e below (T117.setTop (mkF m 366 #[.val (.int x0), .val (.int x1), .val (.int x2), .val (.int x3), .val (.int x4), .val (.int (x0 &&& (3 : Int32))), .val (.ref sg), .val (.ref wk), .val (.int (Int32.ofNat (own_S ii).length)), .val (.int (x1 &&& (3 : Int32))), .val (.int (x3 &&& (255 : Int32))), .val (.ref b29), .unset, .unset, .unset, .unset] [(.ref b29)])) _
                          refine XS.iload X117.here hx rfl (hb hby at_366) rfl ?_
                          show Steps p.tables e below (T117.setTop (mkF m 368 #[.val (.int x0), .val (.int x1), .val (.int x2), .val (.int x3), .val (.int x4), .val (.int (x0 &&& (3 : Int32))), .val (.ref sg), .val (.ref wk), .val (.int (Int32.ofNat (own_S ii).length)), .val (.int (x1 &&& (3 : Int32))), .val (.int (x3 &&& (255 : Int32))), .val (.ref b29), .unset, .unset, .unset, .unset] [(.int (Int32.ofNat (own_S ii).length)), (.ref b29)])) _
                          refine XS.iconst X117.here hx rfl (hb hby at_368) ?_
                          show Steps p.tables e below (T117.setTop (mkF m 369 #[.val (.int x0), .val (.int x1), .val (.int x2), .val (.int x3), .val (.int x4), .val (.int (x0 &&& (3 : Int32))), .val (.ref sg), .val (.ref wk), .val (.int (Int32.ofNat (own_S ii).length)), .val (.int (x1 &&& (3 : Int32))), .val (.int (x3 &&& (255 : Int32))), .val (.ref b29), .unset, .unset, .unset, .unset] [(.int 1), (.int (Int32.ofNat (own_S ii).length)), (.ref b29)])) _
                          refine XS.iadd X117.here hx rfl (hb hby at_369) rfl ?_
                          show Steps p.tables e below (T117.setTop (mkF m 370 #[.val (.int x0), .val (.int x1), .val (.int x2), .val (.int x3), .val (.int x4), .val (.int (x0 &&& (3 : Int32))), .val (.ref sg), .val (.ref wk), .val (.int (Int32.ofNat (own_S ii).length)), .val (.int (x1 &&& (3 : Int32))), .val (.int (x3 &&& (255 : Int32))), .val (.ref b29), .unset, .unset, .unset, .unset] [(.int ((Int32.ofNat (own_S ii).length) + (1 : Int32))), (.ref b29)])) _
                          exact k)
                        obtain ⟨_, _, ⟨T119, L119, k119, n119⟩, -, X119, hS119, hg119, ⟨Lc119, hQ119, l119, y119, z119⟩, st119⟩ := callSS X117 hx (y := (⟨"com/example/millrace/millrace/definition/NodeKindOfElementPinLaw", "prefix", "([CI)Ljava/lang/String;"⟩ : MethodName)) hown (mvT hZ (hw _ (own_m (i := 51) rfl))) (mvT hZ (hw _ (own_m (i := 52) rfl))) (mvT hZ (hw _ (own_m (i := 27) rfl))) (mvT hZ (hw _ (own_m (i := 53) rfl))) (by decide) (own_backOfSB (W := 0) (own_prefix l Z a0 hw [] b29 ((Int32.ofNat (own_S ii).length) + (1 : Int32)) [own_T ii] cz k29 ((own_A ii).set (own_S ii).length (x3 &&& (255 : Int32))) ((own_S ii).length + 1) h117 n0 Z118 (O) HC hcw (own_noE hii) S0 hcz VA (own_okSet (own_okA hii) _ (own_mask x3)) (own_lenAs ii _ _) (own_n1 ii) (Nat.succ_le_succ (own_len ii).2)) hZ hI (hw _ (own_m (i := 53) rfl)) (hw _ (own_m (i := 27) rfl)) (by decide) (by decide)) (g := (mkF m 370 #[.val (.int x0), .val (.int x1), .val (.int x2), .val (.int x3), .val (.int x4), .val (.int (x0 &&& (3 : Int32))), .val (.ref sg), .val (.ref wk), .val (.int (Int32.ofNat (own_S ii).length)), .val (.int (x1 &&& (3 : Int32))), .val (.int (x3 &&& (255 : Int32))), .val (.ref b29), .unset, .unset, .unset, .unset] [(.int ((Int32.ofNat (own_S ii).length) + (1 : Int32))), (.ref b29)])) rfl (by rw [hml]; rfl) (argsL := [(.ref b29), (.int ((Int32.ofNat (own_S ii).length) + (1 : Int32)))]) (rest := []) (lenOf own_pd7 rfl) rfl (by show 2 * 0 + _ ≤ _; exact Nat.le_of_eq rfl) (hb hby at_370) (fun _ _ => ⟨rfl, e117, (by decide : 3 + 4 ≤ _), (by decide : 66 + 30 ≤ _)⟩)
                        dsimp only [Pt.U, Pt.locs, Pt.cells, Pt.slots] at X119 l119 y119 z119 st119 hQ119 hS119 hg119
                        subst l119 y119 z119
                        obtain ⟨X119, hS, hZ, hown⟩ := rebS hS (show _ ≤ T117.heap.size by rw [e117]; exact hk) X119 hS119 hg119 hZ hown
                        obtain ⟨sg119, bw119, kw119, rfl, N119q, K119, Ee119, Fc119, Fv119, VB119⟩ := hQ119
                        have N119 := Fr.app N117 N119q
                        have O := O.keep K119 all0
                        have VA := VA.keep K119 nin0
                        have Z121 := Nat.le_trans Z118 K119.1
                        have hk := Nat.le_refl T119.heap.size
                        obtain ⟨_, _, ⟨T122, L122, k122, n122⟩, -, X122, ⟨Lc122, hQ122, l122, y122, z122⟩, st122⟩ := Jvm.LawKit.callS X119 hx (y := (⟨"com/example/millrace/millrace/definition/NodeKind", "ofElement", "(Ljava/lang/String;)Lcom/example/millrace/millrace/definition/NodeKind;"⟩ : MethodName)) hown (mvT hZ (hw _ (own_m (i := 75) rfl))) (mvT hZ (hw _ (own_m (i := 76) rfl))) (mvT hZ (hw _ (own_m (i := 9) rfl))) (mvT hZ (hw _ (own_m (i := 77) rfl))) (by decide) (backOf (W := 0) (own_ofE l Z a0 hw [] sg119 bw119 kw119 (List.take ((own_S ii).length + 1) ((own_A ii).set (own_S ii).length (x3 &&& (255 : Int32)))) cz va kv w0 w1 w2 w3 sg0 bv0 kb0 sg1 bv1 kb1 sg2 bv2 kb2 sg3 bv3 kb3 T119.heap n0 Z121 Ee119 Fc119 Fv119 VB119 (own_okT (own_okSet (own_okA hii) _ (own_mask x3)) _) (own_lnT (own_lenAs ii _ _) _) (S0.ext O.2) hcz (S_V.ext O.2) (VV.ext O.2) (EV.ext O.2) (Fe0.ext O.2) (Es0.ext O.2) (Fc0.ext O.2) (Fv0.ext O.2) (Vb0.ext O.2) (Fe1.ext O.2) (Es1.ext O.2) (Fc1.ext O.2) (Fv1.ext O.2) (Vb1.ext O.2) (Fe2.ext O.2) (Es2.ext O.2) (Fc2.ext O.2) (Fv2.ext O.2) (Vb2.ext O.2) (Fe3.ext O.2) (Es3.ext O.2) (Fc3.ext O.2) (Fv3.ext O.2) (Vb3.ext O.2)) hZ (hw _ (own_m (i := 77) rfl)) (hw _ (own_m (i := 9) rfl)) (by decide) (by decide)) (g := (mkF m 380 #[.val (.int x0), .val (.int x1), .val (.int x2), .val (.int x3), .val (.int x4), .val (.int (x0 &&& (3 : Int32))), .val (.ref sg), .val (.ref wk), .val (.int (Int32.ofNat (own_S ii).length)), .val (.int (x1 &&& (3 : Int32))), .val (.int (x3 &&& (255 : Int32))), .val (.ref b29), .val (.ref sg119), .val .null, .unset, .unset] [(.ref sg119)])) rfl (by rw [hml]; rfl) (argsL := [(.ref sg119)]) (rest := []) (lenOf own_pd8 rfl) rfl (by show 2 * 0 + _ ≤ _; exact Nat.le_of_eq rfl) (hb hby at_380) (fun _ _ => ⟨rfl, rfl, (by decide : 7 + 1 ≤ _), (by decide : 96 + 4 ≤ _)⟩)
                        dsimp only [Pt.U, Pt.locs, Pt.cells, Pt.slots] at X122 l122 y122 z122 st122 hQ122
                        subst l122 y122 z122
                        obtain ⟨rv122, N122q, K122⟩ := hQ122
                        rw [own_k3 w0 w1 w2 w3 hii] at rv122
                        subst rv122
                        have N122 := Fr.app N119 N122q
                        have O := O.keep K122 all0
                        have VA := VA.keep K122 nin0
                        have hk := Nat.le_trans hk K122.1
                        have Z123 := Nat.le_trans Z121 K122.1
                        obtain ⟨fs, hr, hrun, hended, hRW⟩ := X122.leaveW hS hk (v := some (.int 1)) (fun h => by rw [Bd.returns] at h; cases h)
                        refine ⟨_, _, pre120 _ ?_, hrun, hended, _, _, rfl, ?_, hRW.1, hRW.2.1, hRW.2.2.1, hRW.2.2.2.mono (by decide) (by decide)⟩
                        · refine st119.trans ?_
                          show Steps p.tables e below (T119.setTop (mkF m 373 #[.val (.int x0), .val (.int x1), .val (.int x2), .val (.int x3), .val (.int x4), .val (.int (x0 &&& (3 : Int32))), .val (.ref sg), .val (.ref wk), .val (.int (Int32.ofNat (own_S ii).length)), .val (.int (x1 &&& (3 : Int32))), .val (.int (x3 &&& (255 : Int32))), .val (.ref b29), .unset, .unset, .unset, .unset] [(.ref sg119)])) _
                          refine XS.astore X119.here hx rfl (hb hby at_373) rfl rfl (l' := #[.val (.int x0), .val (.int x1), .val (.int x2), .val (.int x3), .val (.int x4), .val (.int (x0 &&& (3 : Int32))), .val (.ref sg), .val (.ref wk), .val (.int (Int32.ofNat (own_S ii).length)), .val (.int (x1 &&& (3 : Int32))), .val (.int (x3 &&& (255 : Int32))), .val (.ref b29), .val (.ref sg119), .unset, .unset, .unset]) rfl ?_
                          show Steps p.tables e below (T119.setTop (mkF m 375 #[.val (.int x0), .val (.int x1), .val (.int x2), .val (.int x3), .val (.int x4), .val (.int (x0 &&& (3 : Int32))), .val (.ref sg), .val (.ref wk), .val (.int (Int32.ofNat (own_S ii).length)), .val (.int (x1 &&& (3 : Int32))), .val (.int (x3 &&& (255 : Int32))), .val (.ref b29), .val (.ref sg119), .unset, .unset, .unset] [])) _
                          refine XS.aconstNull X119.here hx rfl (hb hby at_375) ?_
                          show Steps p.tables e below (T119.setTop (mkF m 376 #[.val (.int x0), .val (.int x1), .val (.int x2), .val (.int x3), .val (.int x4), .val (.int (x0 &&& (3 : Int32))), .val (.ref sg), .val (.ref wk), .val (.int (Int32.ofNat (own_S ii).length)), .val (.int (x1 &&& (3 : Int32))), .val (.int (x3 &&& (255 : Int32))), .val (.ref b29), .val (.ref sg119), .unset, .unset, .unset] [.null])) _
                          refine XS.astore X119.here hx rfl (hb hby at_376) rfl rfl (l' := #[.val (.int x0), .val (.int x1), .val (.int x2), .val (.int x3), .val (.int x4), .val (.int (x0 &&& (3 : Int32))), .val (.ref sg), .val (.ref wk), .val (.int (Int32.ofNat (own_S ii).length)), .val (.int (x1 &&& (3 : Int32))), .val (.int (x3 &&& (255 : Int32))), .val (.ref b29), .val (.ref sg119), .val .null, .unset, .unset]) rfl ?_
                          show Steps p.tables e below (T119.setTop (mkF m 378 #[.val (.int x0), .val (.int x1), .val (.int x2), .val (.int x3), .val (.int x4), .val (.int (x0 &&& (3 : Int32))), .val (.ref sg), .val (.ref wk), .val (.int (Int32.ofNat (own_S ii).length)), .val (.int (x1 &&& (3 : Int32))), .val (.int (x3 &&& (255 : Int32))), .val (.ref b29), .val (.ref sg119), .val .null, .unset, .unset] [])) _
                          refine XS.aload X119.here hx rfl (hb hby at_378) rfl rfl ?_
                          show Steps p.tables e below (T119.setTop (mkF m 380 #[.val (.int x0), .val (.int x1), .val (.int x2), .val (.int x3), .val (.int x4), .val (.int (x0 &&& (3 : Int32))), .val (.ref sg), .val (.ref wk), .val (.int (Int32.ofNat (own_S ii).length)), .val (.int (x1 &&& (3 : Int32))), .val (.int (x3 &&& (255 : Int32))), .val (.ref b29), .val (.ref sg119), .val .null, .unset, .unset] [(.ref sg119)])) _
                          refine st122 _ ?_
                          show Steps p.tables e below (T122.setTop (mkF m 383 #[.val (.int x0), .val (.int x1), .val (.int x2), .val (.int x3), .val (.int x4), .val (.int (x0 &&& (3 : Int32))), .val (.ref sg), .val (.ref wk), .val (.int (Int32.ofNat (own_S ii).length)), .val (.int (x1 &&& (3 : Int32))), .val (.int (x3 &&& (255 : Int32))), .val (.ref b29), .val (.ref sg119), .val .null, .unset, .unset] [.null])) _
                          refine XS.aload X122.here hx rfl (hb hby at_383) rfl rfl ?_
                          show Steps p.tables e below (T122.setTop (mkF m 385 #[.val (.int x0), .val (.int x1), .val (.int x2), .val (.int x3), .val (.int x4), .val (.int (x0 &&& (3 : Int32))), .val (.ref sg), .val (.ref wk), .val (.int (Int32.ofNat (own_S ii).length)), .val (.int (x1 &&& (3 : Int32))), .val (.int (x3 &&& (255 : Int32))), .val (.ref b29), .val (.ref sg119), .val .null, .unset, .unset] [.null, .null])) _
                          refine Jvm.RoadKit.acmp (g := (mkF m 385 #[.val (.int x0), .val (.int x1), .val (.int x2), .val (.int x3), .val (.int x4), .val (.int (x0 &&& (3 : Int32))), .val (.ref sg), .val (.ref wk), .val (.int (Int32.ofNat (own_S ii).length)), .val (.int (x1 &&& (3 : Int32))), .val (.int (x3 &&& (255 : Int32))), .val (.ref b29), .val (.ref sg119), .val .null, .unset, .unset] [.null, .null])) X122 hx rfl rfl rfl (pc0 := 385) (pc' := 388) (same := true) rfl (hb hby at_385) rfl (decide_eq_true rfl) (by decide) (by decide) ?_
                          show Steps p.tables e below (T122.setTop (mkF m 388 #[.val (.int x0), .val (.int x1), .val (.int x2), .val (.int x3), .val (.int x4), .val (.int (x0 &&& (3 : Int32))), .val (.ref sg), .val (.ref wk), .val (.int (Int32.ofNat (own_S ii).length)), .val (.int (x1 &&& (3 : Int32))), .val (.int (x3 &&& (255 : Int32))), .val (.ref b29), .val (.ref sg119), .val .null, .unset, .unset] [])) _
                          refine XS.iconst X122.here hx rfl (hb hby at_388) ?_
                          show Steps p.tables e below (T122.setTop (mkF m 389 #[.val (.int x0), .val (.int x1), .val (.int x2), .val (.int x3), .val (.int x4), .val (.int (x0 &&& (3 : Int32))), .val (.ref sg), .val (.ref wk), .val (.int (Int32.ofNat (own_S ii).length)), .val (.int (x1 &&& (3 : Int32))), .val (.int (x3 &&& (255 : Int32))), .val (.ref b29), .val (.ref sg119), .val .null, .unset, .unset] [(.int 1)])) _
                          refine XS.goto X122.here hx rfl (pc0 := 389) (pc' := 393) rfl (hb hby at_389) (by decide) (by decide) ?_
                          show Steps p.tables e below (T122.setTop (mkF m 393 #[.val (.int x0), .val (.int x1), .val (.int x2), .val (.int x3), .val (.int x4), .val (.int (x0 &&& (3 : Int32))), .val (.ref sg), .val (.ref wk), .val (.int (Int32.ofNat (own_S ii).length)), .val (.int (x1 &&& (3 : Int32))), .val (.int (x3 &&& (255 : Int32))), .val (.ref b29), .val (.ref sg119), .val .null, .unset, .unset] [(.int 1)])) _
                          exact retN X122 hx (t := .boolean) Bd.returns (by simp) (hb hby at_393) hr
                        · show own_Q_own_law Z x0 x1 x2 x3 x4 cz fm va kv w0 w1 w2 w3 sg0 bv0 kb0 sg1 bv1 kb1 sg2 bv2 kb2 sg3 bv3 kb3 h0 n0 _ T122.heap _
                          exact ⟨rfl, N122⟩
set_option maxRecDepth 65536 in
set_option maxHeartbeats 40000000 in
theorem own_comes_1 {Post : Tables → Env → Array Value → State → Outcome → State → Prop} (hpost : ∀ tb e args s v u, (limb_1_1.after args s (.returned v) u = true ∧ limb_1_2.after args s (.returned v) u = true ∧ True) → ReturnedEndW s (.returned v) u (Jvm.fieldLocs frame_1_writes args s ++ Jvm.arrayLocs frame_1_arrays args s ++ Jvm.staticLocs frame_1_statics s) 32 5312 → Post tb e args s (.returned v) u) :
    ArmFor flags0 classFile x code maxLocals ret World_1 tables_1 room_1 Calls_1 rest_1 Pre_1 Post := by
  intro l hfl _ _ p e ha hc hk s m args below hf hA hF happ hP
  obtain ⟨hcalls, hrest, hpre⟩ := hP
  obtain ⟨-, -, -, hnamed, -, -, -, hat⟩ := (Spec.applies_iff hf).mp happ
  obtain ⟨hg, hn⟩ := and_e (Cond.before_iff.mp (show (Jvm.Cond.and given_1 narrow_1).before args s = true from hpre))
  obtain ⟨g1, g2⟩ := and_e hg
  obtain ⟨g3, g4⟩ := and_e g2
  obtain ⟨g5, g6⟩ := and_e g4
  obtain ⟨g7, g8⟩ := and_e g6
  obtain ⟨g9, g10⟩ := and_e g8
  obtain ⟨g11, g12⟩ := and_e hn
  obtain ⟨g13, g14⟩ := and_e g12
  obtain ⟨g15, g16⟩ := and_e g14
  obtain ⟨g17, g18⟩ := and_e g16
  obtain ⟨g19, g20⟩ := and_e g18
  obtain ⟨g21, g22⟩ := and_e g20
  obtain ⟨g23, g24⟩ := and_e g22
  obtain ⟨g25, g26⟩ := and_e g24
  obtain ⟨g27, g28⟩ := and_e g26
  obtain ⟨g29, g30⟩ := and_e g28
  obtain ⟨g31, g32⟩ := and_e g30
  obtain ⟨g33, g34⟩ := and_e g32
  obtain ⟨g35, g36⟩ := and_e g34
  obtain ⟨g37, g38⟩ := and_e g36
  obtain ⟨g39, g40⟩ := and_e g38
  obtain ⟨g41, g42⟩ := and_e g40
  obtain ⟨g43, g44⟩ := and_e g42
  obtain ⟨g45, g46⟩ := and_e g44
  obtain ⟨g47, g48⟩ := and_e g46
  obtain ⟨g49, g50⟩ := and_e g48
  obtain ⟨g51, g52⟩ := and_e g50
  obtain ⟨g53, g54⟩ := and_e g52
  obtain ⟨g55, g56⟩ := and_e g54
  obtain ⟨g57, g58⟩ := and_e g56
  obtain ⟨g59, g60⟩ := and_e g58
  obtain ⟨g61, g62⟩ := and_e g60
  obtain ⟨g63, g64⟩ := and_e g62
  obtain ⟨g65, g66⟩ := and_e g64
  obtain ⟨g67, g68⟩ := and_e g66
  obtain ⟨g69, g70⟩ := and_e g68
  obtain ⟨g71, g72⟩ := and_e g70
  obtain ⟨g73, g74⟩ := and_e g72
  obtain ⟨g75, g76⟩ := and_e g74
  obtain ⟨g77, g78⟩ := and_e g76
  obtain ⟨g79, g80⟩ := and_e g78
  obtain ⟨g81, g82⟩ := and_e g80
  obtain ⟨g83, g84⟩ := and_e g82
  obtain ⟨g85, g86⟩ := and_e g84
  obtain ⟨g87, g88⟩ := and_e g86
  obtain ⟨g89, g90⟩ := and_e g88
  obtain ⟨g91, g92⟩ := and_e g90
  obtain ⟨g93, g94⟩ := and_e g92
  obtain ⟨g95, g96⟩ := and_e g94
  obtain ⟨g97, g98⟩ := and_e g96
  obtain ⟨g99, g100⟩ := and_e g98
  obtain ⟨g101, g102⟩ := and_e g100
  obtain ⟨g103, g104⟩ := and_e g102
  obtain ⟨g105, g106⟩ := and_e g104
  obtain ⟨g107, g108⟩ := and_e g106
  obtain ⟨g109, g110⟩ := and_e g108
  obtain ⟨g111, g112⟩ := and_e g110
  obtain ⟨g113, g114⟩ := and_e g112
  obtain ⟨g115, g116⟩ := and_e g114
  obtain ⟨g117, g118⟩ := and_e g116
  obtain ⟨w0, w1, w2, w3, w4, rfl⟩ : ∃ w0 w1 w2 w3 w4 : Value, args = #[w0, w1, w2, w3, w4] := by
    have hs : args.size = 5 := by simpa [Cond.value, given_1] using g1
    obtain ⟨L⟩ := args
    match L, hs with
    | [w0, w1, w2, w3, w4], _ => exact ⟨w0, w1, w2, w3, w4, rfl⟩
  have hw := fun d (hd : d ∈ tables_1) => atoms_spec (ws := Jvm.Cond.code x code maxLocals ret :: tables_1) hat d (List.mem_cons_of_mem _ hd)
  have hfit : Fit s := fun {y c} hc i hi => by
    obtain ⟨ha, rfl⟩ := Array.getElem?_eq_some_iff.mp hc
    have q := List.all_eq_true.mp ((Array.all_eq_true_iff_forall_mem.mp hF) _ (Array.getElem_mem ha)) i (List.mem_range.mpr hi)
    simpa [Array.getElem?_eq_getElem hi] using q
  obtain ⟨hsets, hown0⟩ := atoms_of _ (rest_1_c_eq ▸ (show rest_1_c.before _ s = true from hrest))
  have hr0 := Cond.before_iff.mp hown0
  obtain ⟨i0, ei0⟩ := is_v g3
  obtain rfl : w0 = (.int i0) := Option.some.inj ei0
  obtain ⟨i1, ei1⟩ := is_v g5
  obtain rfl : w1 = (.int i1) := Option.some.inj ei1
  obtain ⟨i2, ei2⟩ := is_v g7
  obtain rfl : w2 = (.int i2) := Option.some.inj ei2
  obtain ⟨i3, ei3⟩ := is_v g9
  obtain rfl : w3 = (.int i3) := Option.some.inj ei3
  obtain ⟨i4, ei4⟩ := is_v g10
  obtain rfl : w4 = (.int i4) := Option.some.inj ei4
  obtain ⟨cz, evz⟩ := is_v (Cond.before_iff.mp (hsets _ (own_m (i := 1) rfl)))
  have S0 := Sta.start evz (Or.inl (hsets _ (own_m (i := 0) rfl)))
  have hcz : ¬ (cz = (0 : Int32)) := own_not0 evz (Cond.before_iff.mp (hsets _ (own_m (i := 2) rfl)))
  obtain ⟨fm, evf, rfm⟩ := isR_v (Cond.before_iff.mp (hsets _ (own_m (i := 8) rfl)))
  have Sf := Sta.start evf (Or.inl (hsets _ (own_m (i := 7) rfl)))
  have hcw : Jvm.Lit.compactW.before _ s = true := (hsets _ (own_m (i := 2) rfl))
  have HC0 : Jvm.Lit.constHeld s "com/example/millrace/millrace/definition/NodeKindOfElementPinLaw" 7 := hcalls.1 ("com/example/millrace/millrace/definition/NodeKindOfElementPinLaw", 7) (own_m (i := 0) rfl)
  have HC1 : Jvm.Lit.constHeld s "com/example/millrace/millrace/definition/NodeKindOfElementPinLaw" 15 := hcalls.1 ("com/example/millrace/millrace/definition/NodeKindOfElementPinLaw", 15) (own_m (i := 1) rfl)
  have HC2 : Jvm.Lit.constHeld s "com/example/millrace/millrace/definition/NodeKindOfElementPinLaw" 20 := hcalls.1 ("com/example/millrace/millrace/definition/NodeKindOfElementPinLaw", 20) (own_m (i := 2) rfl)
  have HC3 : Jvm.Lit.constHeld s "com/example/millrace/millrace/definition/NodeKindOfElementPinLaw" 25 := hcalls.1 ("com/example/millrace/millrace/definition/NodeKindOfElementPinLaw", 25) (own_m (i := 3) rfl)
  have HC : Jvm.Lit.constHeld s "java/lang/String" 7 := hcalls.1 ("java/lang/String", 7) (own_m (i := 4) rfl)
  obtain ⟨w0, ev0⟩ := exa_v g11
  have S_0 := Sta.start ev0 (Or.inr ⟨(hw _ (own_m (i := 9) rfl)), (hw _ (own_m (i := 10) rfl))⟩)
  obtain ⟨va, evv⟩ := exa_v g15
  have S_V := Sta.start evv (Or.inr ⟨(hw _ (own_m (i := 9) rfl)), (hw _ (own_m (i := 82) rfl))⟩)
  have EV := Exa.start evv g15
  obtain ⟨w1, ev1⟩ := exa_v g21
  have S_1 := Sta.start ev1 (Or.inr ⟨(hw _ (own_m (i := 9) rfl)), (hw _ (own_m (i := 90) rfl))⟩)
  obtain ⟨w2, ev2⟩ := exa_v g25
  have S_2 := Sta.start ev2 (Or.inr ⟨(hw _ (own_m (i := 9) rfl)), (hw _ (own_m (i := 91) rfl))⟩)
  obtain ⟨w3, ev3⟩ := exa_v g29
  have S_3 := Sta.start ev3 (Or.inr ⟨(hw _ (own_m (i := 9) rfl)), (hw _ (own_m (i := 92) rfl))⟩)
  obtain ⟨cv, AV⟩ := Arr.start evv g13
  have hsz := own_sz evv AV.1 g17
  have el0 := own_el evv AV.1 ev0 (i := 0) (by decide) g19
  have el1 := own_el evv AV.1 ev1 (i := 1) (by decide) g23
  have el2 := own_el evv AV.1 ev2 (i := 2) (by decide) g27
  have el3 := own_el evv AV.1 ev3 (i := 3) (by decide) g31
  obtain ⟨sg0, es0⟩ := exa_v g33
  have Es0 := Exa.start es0 g33
  have Fe0 := Fld.start ((fld_at ev0).symm.trans es0)
  have Fc0 := own_fldI es0 g35
  obtain ⟨bv0, eb0⟩ := arr_v g37
  have Fv0 := Fld.start ((fld_at es0).symm.trans eb0)
  obtain ⟨cb0, AB0⟩ := Arr.start eb0 g37
  have hz0 := own_sz eb0 AB0.1 g39
  obtain ⟨sg1, es1⟩ := exa_v g41
  have Es1 := Exa.start es1 g41
  have Fe1 := Fld.start ((fld_at ev1).symm.trans es1)
  have Fc1 := own_fldI es1 g43
  obtain ⟨bv1, eb1⟩ := arr_v g45
  have Fv1 := Fld.start ((fld_at es1).symm.trans eb1)
  obtain ⟨cb1, AB1⟩ := Arr.start eb1 g45
  have hz1 := own_sz eb1 AB1.1 g47
  obtain ⟨sg2, es2⟩ := exa_v g49
  have Es2 := Exa.start es2 g49
  have Fe2 := Fld.start ((fld_at ev2).symm.trans es2)
  have Fc2 := own_fldI es2 g51
  obtain ⟨bv2, eb2⟩ := arr_v g53
  have Fv2 := Fld.start ((fld_at es2).symm.trans eb2)
  obtain ⟨cb2, AB2⟩ := Arr.start eb2 g53
  have hz2 := own_sz eb2 AB2.1 g55
  obtain ⟨sg3, es3⟩ := exa_v g57
  have Es3 := Exa.start es3 g57
  have Fe3 := Fld.start ((fld_at ev3).symm.trans es3)
  have Fc3 := own_fldI es3 g59
  obtain ⟨bv3, eb3⟩ := arr_v g61
  have Fv3 := Fld.start ((fld_at es3).symm.trans eb3)
  obtain ⟨cb3, AB3⟩ := Arr.start eb3 g61
  have hz3 := own_sz eb3 AB3.1 g63
  have el3_0 := own_elI eb3 AB3.1 (i := 0) (by decide) g65
  have el3_1 := own_elI eb3 AB3.1 (i := 1) (by decide) g67
  have el3_2 := own_elI eb3 AB3.1 (i := 2) (by decide) g69
  have el0_0 := own_elI eb0 AB0.1 (i := 0) (by decide) g71
  have el0_1 := own_elI eb0 AB0.1 (i := 1) (by decide) g73
  have el0_2 := own_elI eb0 AB0.1 (i := 2) (by decide) g75
  have el0_3 := own_elI eb0 AB0.1 (i := 3) (by decide) g77
  have el0_4 := own_elI eb0 AB0.1 (i := 4) (by decide) g79
  have el1_0 := own_elI eb1 AB1.1 (i := 0) (by decide) g81
  have el1_1 := own_elI eb1 AB1.1 (i := 1) (by decide) g83
  have el1_2 := own_elI eb1 AB1.1 (i := 2) (by decide) g85
  have el1_3 := own_elI eb1 AB1.1 (i := 3) (by decide) g87
  have el1_4 := own_elI eb1 AB1.1 (i := 4) (by decide) g89
  have el1_5 := own_elI eb1 AB1.1 (i := 5) (by decide) g91
  have el1_6 := own_elI eb1 AB1.1 (i := 6) (by decide) g93
  have el1_7 := own_elI eb1 AB1.1 (i := 7) (by decide) g95
  have el2_0 := own_elI eb2 AB2.1 (i := 0) (by decide) g97
  have el2_1 := own_elI eb2 AB2.1 (i := 1) (by decide) g99
  have el2_2 := own_elI eb2 AB2.1 (i := 2) (by decide) g101
  have el2_3 := own_elI eb2 AB2.1 (i := 3) (by decide) g103
  have el2_4 := own_elI eb2 AB2.1 (i := 4) (by decide) g105
  have el2_5 := own_elI eb2 AB2.1 (i := 5) (by decide) g107
  have el2_6 := own_elI eb2 AB2.1 (i := 6) (by decide) g109
  have el2_7 := own_elI eb2 AB2.1 (i := 7) (by decide) g111
  have el2_8 := own_elI eb2 AB2.1 (i := 8) (by decide) g113
  have el2_9 := own_elI eb2 AB2.1 (i := 9) (by decide) g115
  have el2_10 := own_elI eb2 AB2.1 (i := 10) (by decide) g117
  have el2_11 := own_elI eb2 AB2.1 (i := 11) (by decide) g118
  have VV : Arv s s.heap va cv.cls (.object "com/example/millrace/millrace/definition/NodeKind") (4 : Int32) [(.ref w0), (.ref w1), (.ref w2), (.ref w3)] .null := Arv.start hfit AV hsz.2 hsz.1 (by decide) rfl ⟨el0, el1, el2, el3, trivial⟩
  have Vl0 : Arv s s.heap bv0 cb0.cls .byte (5 : Int32) [(.int 115), (.int 116), (.int 97), (.int 114), (.int 116)] (.int 0) := Arv.start hfit AB0 hz0.2 hz0.1 (by decide) rfl ⟨el0_0, el0_1, el0_2, el0_3, el0_4, trivial⟩
  have Vb0 : Arv s s.heap bv0 cb0.cls .byte (Int32.ofNat (own_S 0).length) (List.map (fun c => Value.int (StrChars.lo8 c)) (own_S 0)) (.int 0) := Vl0
  have Vl1 : Arv s s.heap bv1 cb1.cls .byte (8 : Int32) [(.int 97), (.int 99), (.int 116), (.int 105), (.int 118), (.int 105), (.int 116), (.int 121)] (.int 0) := Arv.start hfit AB1 hz1.2 hz1.1 (by decide) rfl ⟨el1_0, el1_1, el1_2, el1_3, el1_4, el1_5, el1_6, el1_7, trivial⟩
  have Vb1 : Arv s s.heap bv1 cb1.cls .byte (Int32.ofNat (own_S 1).length) (List.map (fun c => Value.int (StrChars.lo8 c)) (own_S 1)) (.int 0) := Vl1
  have Vl2 : Arv s s.heap bv2 cb2.cls .byte (12 : Int32) [(.int 115), (.int 121), (.int 110), (.int 99), (.int 104), (.int 114), (.int 111), (.int 110), (.int 105), (.int 122), (.int 101), (.int 114)] (.int 0) := Arv.start hfit AB2 hz2.2 hz2.1 (by decide) rfl ⟨el2_0, el2_1, el2_2, el2_3, el2_4, el2_5, el2_6, el2_7, el2_8, el2_9, el2_10, el2_11, trivial⟩
  have Vb2 : Arv s s.heap bv2 cb2.cls .byte (Int32.ofNat (own_S 2).length) (List.map (fun c => Value.int (StrChars.lo8 c)) (own_S 2)) (.int 0) := Vl2
  have Vl3 : Arv s s.heap bv3 cb3.cls .byte (3 : Int32) [(.int 101), (.int 110), (.int 100)] (.int 0) := Arv.start hfit AB3 hz3.2 hz3.1 (by decide) rfl ⟨el3_0, el3_1, el3_2, trivial⟩
  have Vb3 : Arv s s.heap bv3 cb3.cls .byte (Int32.ofNat (own_S 3).length) (List.map (fun c => Value.int (StrChars.lo8 c)) (own_S 3)) (.int 0) := Vl3
  obtain ⟨n, o, h1, h2, h3, _, L, rfl, ⟨rfl, N⟩, hq⟩ := own_law l s _ hw tables_1 i0 i1 i2 i3 i4 cz fm va _ w0 w1 w2 w3 sg0 bv0 _ sg1 bv1 _ sg2 bv2 _ sg3 bv3 _ s.heap s.heap.size (Nat.le_refl _) (Old.start s) HC0 HC1 HC2 HC3 HC hcw S0 hcz Sf rfm S_V VV EV Fe0 Es0 Fc0 Fv0 Vb0 Fe1 Es1 Fc1 Fv1 Vb1 Fe2 Es2 Fc2 Fv2 Vb2 Fe3 Es3 Fc3 Fv3 Vb3 S_0 S_1 S_2 S_3 p e ha hc hk s m _ below hf ((Spec.applies_iff_loose hf).mp happ).1 ⟨rfl, State.Warmed39.refl s, rfl, rfl⟩ trivial
  refine ⟨n, _, h1, h2, h3, hpost _ _ _ _ _ _ ⟨Cond.after_iff.mpr rfl, Cond.after_iff.mpr (eq_i res_at (Term.int_eval (1)) rfl), trivial⟩ ⟨hq.1, hq.2.1, hq.2.2.1, (hq.2.2.2.sift fun y hy => Or.inr (N y hy)).mono (by decide) (by decide)⟩⟩
theorem main_1_1 : Claimed_1_1 := own_comes_1 fun _ _ _ _ _ _ h hF => ⟨h.1, hF⟩
theorem main_1_2 : Claimed_1_2 := own_comes_1 fun _ _ _ _ _ _ h hF => ⟨h.2.1, hF⟩
end Jvm.Pilot.@@N@@
namespace Jvm.Pilot.@@N@@
open Jvm Jvm.ClassFile Sem Op Lib Jvm.Free Jvm.Stand Jvm.Pilot.@@N@@.Jvm.D
/-! MADE BY PROGRAM (witnessworld.py) out of the Statement's table words and the real class files: 22 classes; the members and pool entries that the words name. The judged class is class 1, her method 1. -/
namespace start1
open Jvm.ClassFile
def u (s : String) : CpInfo := .utf8 (stringToUtf16 s)
/-- a pool by its gaps: so many unusable entries, then the entry; so many at the end -/
def gap : Nat → List CpInfo → List CpInfo
  | 0, r => r
  | n + 1, r => .unusable :: gap n r
def poolList (es : List (Nat × CpInfo)) (last : Nat) : List CpInfo := es.foldr (fun e r => gap e.1 (e.2 :: r)) (gap last [])
def pool (es : List (Nat × CpInfo)) (last : Nat) : Array CpInfo := ⟨poolList es last⟩
def fileOf (pool : Array CpInfo) (this : Nat) (attrs : Array Attribute := #[]) (ms : Array MethodInfo := #[]) (fl : Nat := 33) (sup : Nat := 0) (ifs : Array Nat := #[]) (fds : Array FieldInfo := #[]) : ClassFile where
  minorVersion := 0
  majorVersion := 65
  constantPool := pool
  accessFlags := fl
  thisClass := this
  superClass := sup
  interfaces := ifs
  fields := fds
  methods := ms
  attributes := attrs
def plain (name : String) (sup : Option ClassId) : Class where
  name := name
  kind := .ordinary
  loader := none
  accessFlags := 33
  super := sup
  interfaces := #[]
  cf := none
  fields := #[]
  methods := #[]
  instanceTypes := #[]
  staticTypes := #[]
  resolved := #[]
  callSites := []
  init := .initialized
  statics := none
  mirror := none

def pool0 : Array CpInfo := pool [(5, u "<init>"), (0, u "()V"), (1, .class_ 10), (1, u "java/lang/Object"), (85, u "clone"), (0, u "()Ljava/lang/Object;")] 26

def k0c0 : Code := { maxStack := 0, maxLocals := 1, code := object_method_1_code, exceptionTable := #[], attributes := #[] }
def k0m0 : Method := { name := "<init>", desc := "()V", sig := { parameters := [], returnType := none }, accessFlags := 1, code := some k0c0 }
def k0m1 : Method := { name := "clone", desc := "()Ljava/lang/Object;", sig := { parameters := [], returnType := some (.object "java/lang/Object") }, accessFlags := 260, code := none }
/-- java/lang/Object -/
def k0 : Class := { plain "java/lang/Object" none with
  accessFlags := 33
  interfaces := #[]
  cf := some (fileOf pool0 8 #[] #[{ accessFlags := 1, nameIndex := 5, descriptorIndex := 6, attributes := #[] }, { accessFlags := 260, nameIndex := 96, descriptorIndex := 97, attributes := #[] }] 33 0 #[] #[])
  fields := #[]
  methods := #[k0m0, k0m1]
  instanceTypes := #[]
  staticTypes := #[]
  resolved := Array.replicate 124 none
  statics := none }

def pool1 : Array CpInfo := pool [(2, .class_ 4), (1, u "java/lang/Object"), (0, u "<init>"), (0, u "()V"), (0, .string 8), (0, u "start"), (0, .fieldref 10 11), (0, .class_ 12), (0, .nameAndType 13 14), (0, u "com/example/millrace/millrace/definition/NodeKind"), (0, u "START"), (0, u "Lcom/example/millrace/millrace/definition/NodeKind;"), (0, .string 16), (0, u "activity"), (0, .fieldref 10 18), (0, .nameAndType 19 14), (0, u "ACTIVITY"), (0, .string 21), (0, u "synchronizer"), (0, .fieldref 10 23), (0, .nameAndType 24 14), (0, u "SYNCHRONIZER"), (0, .string 26), (0, u "end"), (0, .fieldref 10 28), (0, .nameAndType 29 14), (0, u "END"), (0, .methodref 31 32), (0, .class_ 33), (0, .nameAndType 34 35), (0, u "java/lang/String"), (0, u "length"), (0, u "()I"), (0, .methodref 37 38), (0, .class_ 39), (0, .nameAndType 40 41), (0, u "com/example/millrace/millrace/definition/NodeKindOfElementPinLaw"), (0, u "at"), (0, u "(Ljava/lang/String;II)C"), (0, .methodref 37 43), (0, .nameAndType 44 45), (0, u "prefix"), (0, u "([CI)Ljava/lang/String;"), (0, .integer 2147483647), (0, .methodref 10 48), (0, .nameAndType 49 50), (0, u "ofElement"), (0, u "(Ljava/lang/String;)Lcom/example/millrace/millrace/definition/NodeKind;"), (0, .methodref 31 52), (0, .nameAndType 53 54), (0, u "charAt"), (0, u "(I)C"), (0, .methodref 31 56), (0, .nameAndType 5 57), (0, u "([C)V"), (2, u "law"), (0, u "(IIIII)Z")] 5

def k1m0 : Method := { name := "<init>", desc := "()V", sig := { parameters := [], returnType := none }, accessFlags := 1, code := none }
def k1c1 : Code := { maxStack := 5, maxLocals := 16, code := code, exceptionTable := #[], attributes := #[] }
def k1m1 : Method := { name := "law", desc := "(IIIII)Z", sig := { parameters := [.int, .int, .int, .int, .int], returnType := some .boolean }, accessFlags := 9, code := some k1c1 }
def k1c2 : Code := { maxStack := 2, maxLocals := 3, code := method_3_code, exceptionTable := #[], attributes := #[] }
def k1m2 : Method := { name := "at", desc := "(Ljava/lang/String;II)C", sig := { parameters := [(.object "java/lang/String"), .int, .int], returnType := some .char }, accessFlags := 10, code := some k1c2 }
def k1c3 : Code := { maxStack := 7, maxLocals := 2, code := method_4_code, exceptionTable := #[], attributes := #[] }
def k1m3 : Method := { name := "prefix", desc := "([CI)Ljava/lang/String;", sig := { parameters := [(.array .char), .int], returnType := some (.object "java/lang/String") }, accessFlags := 10, code := some k1c3 }
/-- com/example/millrace/millrace/definition/NodeKindOfElementPinLaw -/
def k1 : Class := { plain "com/example/millrace/millrace/definition/NodeKindOfElementPinLaw" (some 0) with
  accessFlags := 49
  interfaces := #[]
  cf := some (fileOf pool1 37 #[] #[{ accessFlags := 1, nameIndex := 5, descriptorIndex := 6, attributes := #[] }, { accessFlags := 9, nameIndex := 60, descriptorIndex := 61, attributes := #[] }, { accessFlags := 10, nameIndex := 40, descriptorIndex := 41, attributes := #[] }, { accessFlags := 10, nameIndex := 44, descriptorIndex := 45, attributes := #[] }] 49 2 #[] #[])
  fields := #[]
  methods := #[k1m0, k1m1, k1m2, k1m3]
  instanceTypes := #[]
  staticTypes := #[]
  resolved := Array.replicate 67 none
  statics := none }

def pool2 : Array CpInfo := pool [(1, .class_ 2), (0, u "java/io/Serializable"), (0, .class_ 4), (0, u "java/lang/Object")] 2

/-- java/io/Serializable -/
def k2 : Class := { plain "java/io/Serializable" (some 0) with
  accessFlags := 1537
  interfaces := #[]
  cf := some (fileOf pool2 1 #[] #[] 1537 3 #[] #[])
  fields := #[]
  methods := #[]
  instanceTypes := #[]
  staticTypes := #[]
  resolved := Array.replicate 7 none
  statics := none }

def pool3 : Array CpInfo := pool [(1, .class_ 2), (0, u "java/lang/Comparable"), (0, .class_ 4), (0, u "java/lang/Object")] 7

/-- java/lang/Comparable -/
def k3 : Class := { plain "java/lang/Comparable" (some 0) with
  accessFlags := 1537
  interfaces := #[]
  cf := some (fileOf pool3 1 #[] #[] 1537 3 #[] #[])
  fields := #[]
  methods := #[]
  instanceTypes := #[]
  staticTypes := #[]
  resolved := Array.replicate 12 none
  statics := none }

def pool4 : Array CpInfo := pool [(2, .class_ 4), (1, u "java/lang/CharSequence"), (42, .class_ 48), (0, u "java/lang/CharSequence$1CodePointIterator"), (10, .class_ 60), (0, u "java/lang/CharSequence$1CharIterator"), (5, .class_ 67), (0, u "java/lang/Object")] 63

/-- java/lang/CharSequence -/
def k4 : Class := { plain "java/lang/CharSequence" (some 0) with
  accessFlags := 1537
  interfaces := #[]
  cf := some (fileOf pool4 2 #[.nestMembers #[47, 59]] #[] 1537 66 #[] #[])
  fields := #[]
  methods := #[]
  instanceTypes := #[]
  staticTypes := #[]
  resolved := Array.replicate 131 none
  statics := none }

def pool5 : Array CpInfo := pool [(1, .class_ 2), (0, u "java/lang/constant/Constable"), (0, .class_ 4), (0, u "java/lang/Object")] 6

/-- java/lang/constant/Constable -/
def k5 : Class := { plain "java/lang/constant/Constable" (some 0) with
  accessFlags := 1537
  interfaces := #[]
  cf := some (fileOf pool5 1 #[] #[] 1537 3 #[] #[])
  fields := #[]
  methods := #[]
  instanceTypes := #[]
  staticTypes := #[]
  resolved := Array.replicate 11 none
  statics := none }

def pool6 : Array CpInfo := pool [(1, .class_ 2), (0, u "java/lang/constant/ConstantDesc"), (0, .class_ 4), (0, u "java/lang/Object")] 32

/-- java/lang/constant/ConstantDesc -/
def k6 : Class := { plain "java/lang/constant/ConstantDesc" (some 0) with
  accessFlags := 1537
  interfaces := #[]
  cf := some (fileOf pool6 1 #[] #[] 1537 3 #[] #[])
  fields := #[]
  methods := #[]
  instanceTypes := #[]
  staticTypes := #[]
  resolved := Array.replicate 37 none
  statics := none }

def pool7 : Array CpInfo := pool [(1, .methodref 2 3), (0, .class_ 4), (0, .nameAndType 5 6), (0, u "java/lang/Object"), (0, u "<init>"), (0, u "()V"), (0, .string 8), (0, u ""), (0, .fieldref 10 11), (0, .class_ 12), (0, .nameAndType 13 14), (0, u "java/lang/String"), (0, u "value"), (0, u "[B"), (0, .fieldref 10 16), (0, .nameAndType 17 18), (0, u "coder"), (0, u "B"), (2, u "hash"), (0, u "I"), (2, u "hashIsZero"), (0, u "Z"), (0, .methodref 10 28), (0, .nameAndType 5 29), (0, u "([CIILjava/lang/Void;)V"), (8, .fieldref 10 39), (0, .nameAndType 40 26), (0, u "COMPACT_STRINGS"), (1, .class_ 44), (1, u "java/lang/StringUTF16"), (0, u "compress"), (1, .methodref 42 48), (0, .nameAndType 49 50), (0, u "coderFromArrayLen"), (0, u "([BI)B"), (56, .class_ 109), (1, u "java/lang/StringLatin1"), (32, u "()Z"), (34, .methodref 42 178), (0, .nameAndType 45 179), (0, u "([CII)[B"), (154, u "()I"), (0, .methodref 10 336), (0, .nameAndType 17 337), (0, u "()B"), (25, u "([BI)C"), (27, u "(II)V"), (35, u "(I)C"), (64, .methodref 10 493), (0, .nameAndType 494 142), (0, u "isLatin1"), (0, .methodref 107 496), (0, .nameAndType 497 363), (0, u "charAt"), (3, u "checkIndex"), (5, u "length"), (33, .methodref 107 542), (0, .nameAndType 543 544), (0, u "equals"), (0, u "([B[B)Z"), (28, u "(Ljava/lang/Object;)Z"), (1, .class_ 576), (0, u "java/lang/CharSequence"), (22, u "CASE_INSENSITIVE_ORDER"), (0, u "Ljava/util/Comparator;"), (409, u "([C)V"), (42, .fieldref 1054 1055), (0, .class_ 1056), (0, .nameAndType 1057 1058), (0, u "jdk/internal/util/Preconditions"), (0, u "SIOOBE_FORMATTER"), (0, u "Ljava/util/function/BiFunction;"), (0, .methodref 1054 1060), (0, .nameAndType 501 1061), (0, u "(IILjava/util/function/BiFunction;)I"), (39, u "serialPersistentFields"), (0, u "[Ljava/io/ObjectStreamField;"), (0, .class_ 1104), (0, u "java/lang/String$CaseInsensitiveComparator"), (1, .class_ 1107), (0, u "java/io/Serializable"), (0, .class_ 1109), (0, u "java/lang/Comparable"), (0, .class_ 1111), (0, u "java/lang/constant/Constable"), (0, .class_ 1113), (0, u "java/lang/constant/ConstantDesc"), (2, u "serialVersionUID"), (0, u "J"), (3, u "REPL"), (0, u "C"), (2, u "LATIN1"), (1, u "UTF16")] 323

def k7m0 : Method := { name := "<init>", desc := "()V", sig := { parameters := [], returnType := none }, accessFlags := 1, code := none }
def k7c1 : Code := { maxStack := 5, maxLocals := 2, code := jdk_42_method_3_code, exceptionTable := #[], attributes := #[] }
def k7m1 : Method := { name := "<init>", desc := "([C)V", sig := { parameters := [(.array .char)], returnType := none }, accessFlags := 1, code := some k7c1 }
def k7c2 : Code := { maxStack := 2, maxLocals := 1, code := jdk_42_method_54_code, exceptionTable := #[], attributes := #[] }
def k7m2 : Method := { name := "length", desc := "()I", sig := { parameters := [], returnType := some .int }, accessFlags := 1, code := some k7c2 }
def k7c3 : Code := { maxStack := 2, maxLocals := 2, code := jdk_42_method_56_code, exceptionTable := #[], attributes := #[] }
def k7m3 : Method := { name := "charAt", desc := "(I)C", sig := { parameters := [.int], returnType := some .char }, accessFlags := 1, code := some k7c3 }
def k7c4 : Code := { maxStack := 2, maxLocals := 3, code := jdk_42_method_66_code, exceptionTable := #[], attributes := #[] }
def k7m4 : Method := { name := "equals", desc := "(Ljava/lang/Object;)Z", sig := { parameters := [(.object "java/lang/Object")], returnType := some .boolean }, accessFlags := 1, code := some k7c4 }
def k7c5 : Code := { maxStack := 4, maxLocals := 6, code := jdk_42_method_149_code, exceptionTable := #[], attributes := #[] }
def k7m5 : Method := { name := "<init>", desc := "([CIILjava/lang/Void;)V", sig := { parameters := [(.array .char), .int, .int, (.object "java/lang/Void")], returnType := none }, accessFlags := 2, code := some k7c5 }
def k7c6 : Code := { maxStack := 1, maxLocals := 1, code := jdk_42_method_152_code, exceptionTable := #[], attributes := #[] }
def k7m6 : Method := { name := "coder", desc := "()B", sig := { parameters := [], returnType := some .byte }, accessFlags := 0, code := some k7c6 }
def k7c7 : Code := { maxStack := 1, maxLocals := 1, code := jdk_42_method_154_code, exceptionTable := #[], attributes := #[] }
def k7m7 : Method := { name := "isLatin1", desc := "()Z", sig := { parameters := [], returnType := some .boolean }, accessFlags := 0, code := some k7c7 }
def k7c8 : Code := { maxStack := 3, maxLocals := 2, code := jdk_42_method_155_code, exceptionTable := #[], attributes := #[] }
def k7m8 : Method := { name := "checkIndex", desc := "(II)V", sig := { parameters := [.int, .int], returnType := none }, accessFlags := 8, code := some k7c8 }
/-- java/lang/String -/
def k7 : Class := { plain "java/lang/String" (some 0) with
  accessFlags := 49
  interfaces := #[2, 3, 4, 5, 6]
  cf := some (fileOf pool7 10 #[.nestMembers #[1103]] #[{ accessFlags := 1, nameIndex := 5, descriptorIndex := 6, attributes := #[] }, { accessFlags := 1, nameIndex := 5, descriptorIndex := 1010, attributes := #[] }, { accessFlags := 1, nameIndex := 507, descriptorIndex := 334, attributes := #[] }, { accessFlags := 1, nameIndex := 497, descriptorIndex := 427, attributes := #[] }, { accessFlags := 1, nameIndex := 543, descriptorIndex := 573, attributes := #[] }, { accessFlags := 2, nameIndex := 5, descriptorIndex := 29, attributes := #[] }, { accessFlags := 0, nameIndex := 17, descriptorIndex := 337, attributes := #[] }, { accessFlags := 0, nameIndex := 494, descriptorIndex := 142, attributes := #[] }, { accessFlags := 8, nameIndex := 501, descriptorIndex := 391, attributes := #[] }] 49 2 #[1106, 1108, 575, 1110, 1112] #[{ accessFlags := 18, nameIndex := 13, descriptorIndex := 14, attributes := #[] }, { accessFlags := 18, nameIndex := 17, descriptorIndex := 18, attributes := #[] }, { accessFlags := 2, nameIndex := 21, descriptorIndex := 22, attributes := #[] }, { accessFlags := 2, nameIndex := 25, descriptorIndex := 26, attributes := #[] }, { accessFlags := 26, nameIndex := 1116, descriptorIndex := 1117, attributes := #[] }, { accessFlags := 24, nameIndex := 40, descriptorIndex := 26, attributes := #[] }, { accessFlags := 26, nameIndex := 1101, descriptorIndex := 1102, attributes := #[] }, { accessFlags := 26, nameIndex := 1121, descriptorIndex := 1122, attributes := #[] }, { accessFlags := 25, nameIndex := 599, descriptorIndex := 600, attributes := #[] }, { accessFlags := 24, nameIndex := 1125, descriptorIndex := 18, attributes := #[] }, { accessFlags := 24, nameIndex := 1127, descriptorIndex := 18, attributes := #[] }])
  fields := #[{ name := "value", type := (.array .byte), accessFlags := 18, slot := 0, constantValue := 0 }, { name := "coder", type := .byte, accessFlags := 18, slot := 1, constantValue := 0 }, { name := "hash", type := .int, accessFlags := 2, slot := 2, constantValue := 0 }, { name := "hashIsZero", type := .boolean, accessFlags := 2, slot := 3, constantValue := 0 }, { name := "serialVersionUID", type := .long, accessFlags := 26, slot := 0, constantValue := 0 }, { name := "COMPACT_STRINGS", type := .boolean, accessFlags := 24, slot := 1, constantValue := 0 }, { name := "serialPersistentFields", type := (.array (.object "java/io/ObjectStreamField")), accessFlags := 26, slot := 2, constantValue := 0 }, { name := "REPL", type := .char, accessFlags := 26, slot := 3, constantValue := 0 }, { name := "CASE_INSENSITIVE_ORDER", type := (.object "java/util/Comparator"), accessFlags := 25, slot := 4, constantValue := 0 }, { name := "LATIN1", type := .byte, accessFlags := 24, slot := 5, constantValue := 0 }, { name := "UTF16", type := .byte, accessFlags := 24, slot := 6, constantValue := 0 }]
  methods := #[k7m0, k7m1, k7m2, k7m3, k7m4, k7m5, k7m6, k7m7, k7m8]
  instanceTypes := #[(.array .byte), .byte, .int, .boolean]
  staticTypes := #[.long, .boolean, (.array (.object "java/io/ObjectStreamField")), .char, (.object "java/util/Comparator"), .byte, .byte]
  resolved := Array.replicate 1451 none
  statics := some 0 }

def pool8 : Array CpInfo := pool [(2, .class_ 4), (1, u "java/lang/Enum"), (0, u "name"), (0, u "Ljava/lang/String;"), (2, u "ordinal"), (0, u "I"), (1, .class_ 14), (1, u "java/lang/Object"), (4, u "hash"), (86, .class_ 108), (1, u "java/lang/Enum$EnumDesc"), (2, .class_ 112), (0, u "java/lang/constant/Constable"), (0, .class_ 114), (0, u "java/lang/Comparable"), (0, .class_ 116), (0, u "java/io/Serializable")] 87

/-- java/lang/Enum -/
def k8 : Class := { plain "java/lang/Enum" (some 0) with
  accessFlags := 1057
  interfaces := #[5, 3, 2]
  cf := some (fileOf pool8 2 #[.nestMembers #[106]] #[] 1057 12 #[111, 113, 115] #[{ accessFlags := 18, nameIndex := 5, descriptorIndex := 6, attributes := #[] }, { accessFlags := 18, nameIndex := 9, descriptorIndex := 10, attributes := #[] }, { accessFlags := 2, nameIndex := 19, descriptorIndex := 10, attributes := #[] }])
  fields := #[{ name := "name", type := (.object "java/lang/String"), accessFlags := 18, slot := 0, constantValue := 0 }, { name := "ordinal", type := .int, accessFlags := 18, slot := 1, constantValue := 0 }, { name := "hash", type := .int, accessFlags := 2, slot := 2, constantValue := 0 }]
  methods := #[]
  instanceTypes := #[(.object "java/lang/String"), .int, .int]
  staticTypes := #[]
  resolved := Array.replicate 204 none
  statics := none }

def pool9 : Array CpInfo := pool [(1, .class_ 2), (0, u "com/example/millrace/millrace/definition/NodeKind"), (2, u "START"), (0, u "Lcom/example/millrace/millrace/definition/NodeKind;"), (2, u "ACTIVITY"), (2, u "SYNCHRONIZER"), (2, u "END"), (0, .fieldref 1 17), (0, .nameAndType 18 19), (0, u "$VALUES"), (0, u "[Lcom/example/millrace/millrace/definition/NodeKind;"), (0, .methodref 21 22), (0, .class_ 19), (0, .nameAndType 23 24), (0, u "clone"), (0, u "()Ljava/lang/Object;"), (1, .class_ 28), (1, u "java/lang/Enum"), (6, .fieldref 1 36), (0, .nameAndType 37 38), (0, u "element"), (0, u "Ljava/lang/String;"), (0, .methodref 1 40), (0, .nameAndType 41 42), (0, u "values"), (0, u "()[Lcom/example/millrace/millrace/definition/NodeKind;"), (0, .methodref 44 45), (0, .class_ 46), (0, .nameAndType 47 48), (0, u "java/lang/String"), (0, u "equals"), (0, u "(Ljava/lang/Object;)Z"), (20, u "(Ljava/lang/String;)Lcom/example/millrace/millrace/definition/NodeKind;"), (4, u "ofElement")] 6

def k9c0 : Code := { maxStack := 1, maxLocals := 0, code := prog_16_method_1_code, exceptionTable := #[], attributes := #[] }
def k9m0 : Method := { name := "values", desc := "()[Lcom/example/millrace/millrace/definition/NodeKind;", sig := { parameters := [], returnType := some (.array (.object "com/example/millrace/millrace/definition/NodeKind")) }, accessFlags := 9, code := some k9c0 }
def k9c1 : Code := { maxStack := 2, maxLocals := 5, code := prog_16_method_5_code, exceptionTable := #[], attributes := #[] }
def k9m1 : Method := { name := "ofElement", desc := "(Ljava/lang/String;)Lcom/example/millrace/millrace/definition/NodeKind;", sig := { parameters := [(.object "java/lang/String")], returnType := some (.object "com/example/millrace/millrace/definition/NodeKind") }, accessFlags := 8, code := some k9c1 }
/-- com/example/millrace/millrace/definition/NodeKind -/
def k9 : Class := { plain "com/example/millrace/millrace/definition/NodeKind" (some 8) with
  accessFlags := 16433
  interfaces := #[]
  cf := some (fileOf pool9 1 #[] #[{ accessFlags := 9, nameIndex := 41, descriptorIndex := 42, attributes := #[] }, { accessFlags := 8, nameIndex := 74, descriptorIndex := 69, attributes := #[] }] 16433 26 #[] #[{ accessFlags := 16409, nameIndex := 5, descriptorIndex := 6, attributes := #[] }, { accessFlags := 16409, nameIndex := 9, descriptorIndex := 6, attributes := #[] }, { accessFlags := 16409, nameIndex := 12, descriptorIndex := 6, attributes := #[] }, { accessFlags := 16409, nameIndex := 15, descriptorIndex := 6, attributes := #[] }, { accessFlags := 18, nameIndex := 37, descriptorIndex := 38, attributes := #[] }, { accessFlags := 4122, nameIndex := 18, descriptorIndex := 19, attributes := #[] }])
  fields := #[{ name := "START", type := (.object "com/example/millrace/millrace/definition/NodeKind"), accessFlags := 16409, slot := 0, constantValue := 0 }, { name := "ACTIVITY", type := (.object "com/example/millrace/millrace/definition/NodeKind"), accessFlags := 16409, slot := 1, constantValue := 0 }, { name := "SYNCHRONIZER", type := (.object "com/example/millrace/millrace/definition/NodeKind"), accessFlags := 16409, slot := 2, constantValue := 0 }, { name := "END", type := (.object "com/example/millrace/millrace/definition/NodeKind"), accessFlags := 16409, slot := 3, constantValue := 0 }, { name := "element", type := (.object "java/lang/String"), accessFlags := 18, slot := 3, constantValue := 0 }, { name := "$VALUES", type := (.array (.object "com/example/millrace/millrace/definition/NodeKind")), accessFlags := 4122, slot := 4, constantValue := 0 }]
  methods := #[k9m0, k9m1]
  instanceTypes := #[(.object "java/lang/String"), .int, .int, (.object "java/lang/String")]
  staticTypes := #[(.object "com/example/millrace/millrace/definition/NodeKind"), (.object "com/example/millrace/millrace/definition/NodeKind"), (.object "com/example/millrace/millrace/definition/NodeKind"), (.object "com/example/millrace/millrace/definition/NodeKind"), (.array (.object "com/example/millrace/millrace/definition/NodeKind"))]
  resolved := Array.replicate 81 none
  statics := some 1 }

def pool10 : Array CpInfo := pool [(1, .class_ 2), (0, u "java/lang/String"), (1, .class_ 6), (1, u "java/lang/Object"), (0, u "<init>"), (0, u "()V"), (0, .methodref 1 10), (0, .nameAndType 11 12), (0, u "checkIndex"), (0, u "(II)V"), (1, .class_ 16), (1, u "java/lang/StringLatin1"), (36, u "([BI)C"), (67, u "$assertionsDisabled"), (0, u "Z"), (98, .class_ 223), (1, u "java/lang/StringLatin1$LinesSpliterator"), (28, u "charAt"), (28, u "equals"), (0, u "([B[B)Z"), (107, .class_ 391), (0, u "java/lang/StringLatin1$CharsSpliterator")] 3

def k10m0 : Method := { name := "<init>", desc := "()V", sig := { parameters := [], returnType := none }, accessFlags := 0, code := none }
def k10c1 : Code := { maxStack := 2, maxLocals := 2, code := jdk_43_method_2_code, exceptionTable := #[], attributes := #[] }
def k10m1 : Method := { name := "charAt", desc := "([BI)C", sig := { parameters := [(.array .byte), .int], returnType := some .char }, accessFlags := 9, code := some k10c1 }
def k10c2 : Code := { maxStack := 3, maxLocals := 3, code := jdk_43_method_13_code, exceptionTable := #[], attributes := #[] }
def k10m2 : Method := { name := "equals", desc := "([B[B)Z", sig := { parameters := [(.array .byte), (.array .byte)], returnType := some .boolean }, accessFlags := 9, code := some k10c2 }
/-- java/lang/StringLatin1 -/
def k10 : Class := { plain "java/lang/StringLatin1" (some 0) with
  accessFlags := 48
  interfaces := #[]
  cf := some (fileOf pool10 14 #[.nestMembers #[390, 221]] #[{ accessFlags := 0, nameIndex := 7, descriptorIndex := 8, attributes := #[] }, { accessFlags := 9, nameIndex := 252, descriptorIndex := 53, attributes := #[] }, { accessFlags := 9, nameIndex := 281, descriptorIndex := 282, attributes := #[] }] 48 4 #[] #[{ accessFlags := 4120, nameIndex := 121, descriptorIndex := 122, attributes := #[] }])
  fields := #[{ name := "$assertionsDisabled", type := .boolean, accessFlags := 4120, slot := 0, constantValue := 0 }]
  methods := #[k10m0, k10m1, k10m2]
  instanceTypes := #[]
  staticTypes := #[.boolean]
  resolved := Array.replicate 395 none
  statics := none }

def pool11 : Array CpInfo := pool [(2, .class_ 4), (1, u "java/lang/Object"), (0, u "<init>"), (0, u "()V"), (17, .class_ 26), (1, u "jdk/internal/util/Preconditions"), (6, u "checkIndex"), (21, .class_ 56), (0, u "jdk/internal/util/Preconditions$4"), (57, .class_ 115), (0, u "jdk/internal/util/Preconditions$1"), (7, u "SIOOBE_FORMATTER"), (0, u "Ljava/util/function/BiFunction;"), (0, .class_ 126), (0, u "jdk/internal/util/Preconditions$2"), (3, u "AIOOBE_FORMATTER"), (0, .class_ 132), (0, u "jdk/internal/util/Preconditions$3"), (3, u "IOOBE_FORMATTER"), (41, u "(IILjava/util/function/BiFunction;)I")] 15

def k11m0 : Method := { name := "<init>", desc := "()V", sig := { parameters := [], returnType := none }, accessFlags := 1, code := none }
def k11c1 : Code := { maxStack := 3, maxLocals := 3, code := jdk_41_method_11_code, exceptionTable := #[], attributes := #[] }
def k11m1 : Method := { name := "checkIndex", desc := "(IILjava/util/function/BiFunction;)I", sig := { parameters := [.int, .int, (.object "java/util/function/BiFunction")], returnType := some .int }, accessFlags := 9, code := some k11c1 }
/-- jdk/internal/util/Preconditions -/
def k11 : Class := { plain "jdk/internal/util/Preconditions" (some 0) with
  accessFlags := 33
  interfaces := #[]
  cf := some (fileOf pool11 24 #[.nestMembers #[55, 131, 125, 114]] #[{ accessFlags := 1, nameIndex := 5, descriptorIndex := 6, attributes := #[] }, { accessFlags := 9, nameIndex := 33, descriptorIndex := 178, attributes := #[] }] 33 2 #[] #[{ accessFlags := 25, nameIndex := 123, descriptorIndex := 124, attributes := #[] }, { accessFlags := 25, nameIndex := 130, descriptorIndex := 124, attributes := #[] }, { accessFlags := 25, nameIndex := 136, descriptorIndex := 124, attributes := #[] }])
  fields := #[{ name := "SIOOBE_FORMATTER", type := (.object "java/util/function/BiFunction"), accessFlags := 25, slot := 0, constantValue := 0 }, { name := "AIOOBE_FORMATTER", type := (.object "java/util/function/BiFunction"), accessFlags := 25, slot := 1, constantValue := 0 }, { name := "IOOBE_FORMATTER", type := (.object "java/util/function/BiFunction"), accessFlags := 25, slot := 2, constantValue := 0 }]
  methods := #[k11m0, k11m1]
  instanceTypes := #[]
  staticTypes := #[(.object "java/util/function/BiFunction"), (.object "java/util/function/BiFunction"), (.object "java/util/function/BiFunction")]
  resolved := Array.replicate 194 none
  statics := some 2 }

def pool12 : Array CpInfo := pool [(6, .class_ 8), (1, u "java/lang/Object"), (0, u "<init>"), (0, u "()V"), (1, .class_ 14), (1, u "java/lang/StringUTF16"), (31, u "$assertionsDisabled"), (0, u "Z"), (13, u "HI_BYTE_SHIFT"), (0, u "I"), (2, u "LO_BYTE_SHIFT"), (49, .methodref 12 116), (0, .nameAndType 117 118), (0, u "compress"), (0, u "([CI[BII)I"), (3, u "([CII)[B"), (138, u "coderFromArrayLen"), (0, u "([BI)B"), (106, .class_ 371), (1, u "java/lang/StringUTF16$LinesSpliterator"), (58, u "MAX_LENGTH"), (196, .class_ 628), (0, u "java/lang/StringUTF16$CodePointsSpliterator"), (0, .class_ 630), (0, u "java/lang/StringUTF16$CharsSpliterator")] 4

def k12m0 : Method := { name := "<init>", desc := "()V", sig := { parameters := [], returnType := none }, accessFlags := 0, code := none }
def k12c1 : Code := { maxStack := 2, maxLocals := 2, code := jdk_52_method_15_code, exceptionTable := #[], attributes := #[] }
def k12m1 : Method := { name := "coderFromArrayLen", desc := "([BI)B", sig := { parameters := [(.array .byte), .int], returnType := some .byte }, accessFlags := 8, code := some k12c1 }
def k12c2 : Code := { maxStack := 5, maxLocals := 6, code := jdk_52_method_16_code, exceptionTable := #[], attributes := #[] }
def k12m2 : Method := { name := "compress", desc := "([CII)[B", sig := { parameters := [(.array .char), .int, .int], returnType := some (.array .byte) }, accessFlags := 9, code := some k12c2 }
def k12c3 : Code := { maxStack := 3, maxLocals := 7, code := jdk_52_method_21_code, exceptionTable := #[], attributes := #[] }
def k12m3 : Method := { name := "compress", desc := "([CI[BII)I", sig := { parameters := [(.array .char), .int, (.array .byte), .int, .int], returnType := some .int }, accessFlags := 9, code := some k12c3 }
/-- java/lang/StringUTF16 -/
def k12 : Class := { plain "java/lang/StringUTF16" (some 0) with
  accessFlags := 48
  interfaces := #[]
  cf := some (fileOf pool12 12 #[.nestMembers #[627, 629, 369]] #[{ accessFlags := 0, nameIndex := 9, descriptorIndex := 10, attributes := #[] }, { accessFlags := 8, nameIndex := 261, descriptorIndex := 262, attributes := #[] }, { accessFlags := 9, nameIndex := 117, descriptorIndex := 122, attributes := #[] }, { accessFlags := 9, nameIndex := 117, descriptorIndex := 118, attributes := #[] }] 48 6 #[] #[{ accessFlags := 26, nameIndex := 61, descriptorIndex := 62, attributes := #[] }, { accessFlags := 26, nameIndex := 65, descriptorIndex := 62, attributes := #[] }, { accessFlags := 24, nameIndex := 430, descriptorIndex := 62, attributes := #[] }, { accessFlags := 4120, nameIndex := 46, descriptorIndex := 47, attributes := #[] }])
  fields := #[{ name := "HI_BYTE_SHIFT", type := .int, accessFlags := 26, slot := 0, constantValue := 0 }, { name := "LO_BYTE_SHIFT", type := .int, accessFlags := 26, slot := 1, constantValue := 0 }, { name := "MAX_LENGTH", type := .int, accessFlags := 24, slot := 2, constantValue := 0 }, { name := "$assertionsDisabled", type := .boolean, accessFlags := 4120, slot := 3, constantValue := 0 }]
  methods := #[k12m0, k12m1, k12m2, k12m3]
  instanceTypes := #[]
  staticTypes := #[.int, .int, .int, .boolean]
  resolved := Array.replicate 635 none
  statics := none }

def pool13 : Array CpInfo := pool [(1, .class_ 2), (0, u "java/lang/Cloneable"), (0, .class_ 4), (0, u "java/lang/Object")] 2

/-- java/lang/Cloneable -/
def k13 : Class := { plain "java/lang/Cloneable" (some 0) with
  accessFlags := 1537
  interfaces := #[]
  cf := some (fileOf pool13 1 #[] #[] 1537 3 #[] #[])
  fields := #[]
  methods := #[]
  instanceTypes := #[]
  staticTypes := #[]
  resolved := Array.replicate 7 none
  statics := none }

def pool14 : Array CpInfo := pool [(9, u "<init>"), (6, .class_ 18), (1, u "java/lang/Object"), (0, u "()V"), (1, .class_ 23), (1, u "jdk/internal/util/ArraysSupport"), (0, u "LOG2_ARRAY_LONG_INDEX_SCALE"), (0, u "I"), (2, u "U"), (0, u "Ljdk/internal/misc/Unsafe;"), (8, u "BIG_ENDIAN"), (0, u "Z"), (8, u "LOG2_BYTE_BIT_SIZE"), (4, u "LOG2_ARRAY_INT_INDEX_SCALE"), (54, u "JLA"), (0, u "Ljdk/internal/access/JavaLangAccess;"), (11, u "LOG2_ARRAY_BOOLEAN_INDEX_SCALE"), (9, u "LOG2_ARRAY_BYTE_INDEX_SCALE"), (5, u "LOG2_ARRAY_CHAR_INDEX_SCALE"), (5, u "LOG2_ARRAY_SHORT_INDEX_SCALE"), (18, u "LOG2_ARRAY_FLOAT_INDEX_SCALE"), (24, u "LOG2_ARRAY_DOUBLE_INDEX_SCALE"), (89, u "T_BOOLEAN"), (2, u "T_CHAR"), (1, u "T_FLOAT"), (1, u "T_DOUBLE"), (1, u "T_BYTE"), (1, u "T_SHORT"), (1, u "T_INT"), (1, u "T_LONG"), (1, u "SOFT_MAX_ARRAY_LENGTH")] 83

def k14m0 : Method := { name := "<init>", desc := "()V", sig := { parameters := [], returnType := none }, accessFlags := 2, code := none }
/-- jdk/internal/util/ArraysSupport -/
def k14 : Class := { plain "jdk/internal/util/ArraysSupport" (some 0) with
  accessFlags := 33
  interfaces := #[]
  cf := some (fileOf pool14 21 #[] #[{ accessFlags := 2, nameIndex := 9, descriptorIndex := 19, attributes := #[] }] 33 16 #[] #[{ accessFlags := 24, nameIndex := 28, descriptorIndex := 29, attributes := #[] }, { accessFlags := 26, nameIndex := 38, descriptorIndex := 39, attributes := #[] }, { accessFlags := 25, nameIndex := 121, descriptorIndex := 25, attributes := #[] }, { accessFlags := 25, nameIndex := 131, descriptorIndex := 25, attributes := #[] }, { accessFlags := 25, nameIndex := 137, descriptorIndex := 25, attributes := #[] }, { accessFlags := 25, nameIndex := 143, descriptorIndex := 25, attributes := #[] }, { accessFlags := 25, nameIndex := 53, descriptorIndex := 25, attributes := #[] }, { accessFlags := 25, nameIndex := 24, descriptorIndex := 25, attributes := #[] }, { accessFlags := 25, nameIndex := 162, descriptorIndex := 25, attributes := #[] }, { accessFlags := 25, nameIndex := 187, descriptorIndex := 25, attributes := #[] }, { accessFlags := 26, nameIndex := 48, descriptorIndex := 25, attributes := #[] }, { accessFlags := 25, nameIndex := 277, descriptorIndex := 25, attributes := #[] }, { accessFlags := 25, nameIndex := 280, descriptorIndex := 25, attributes := #[] }, { accessFlags := 25, nameIndex := 282, descriptorIndex := 25, attributes := #[] }, { accessFlags := 25, nameIndex := 284, descriptorIndex := 25, attributes := #[] }, { accessFlags := 25, nameIndex := 286, descriptorIndex := 25, attributes := #[] }, { accessFlags := 25, nameIndex := 288, descriptorIndex := 25, attributes := #[] }, { accessFlags := 25, nameIndex := 290, descriptorIndex := 25, attributes := #[] }, { accessFlags := 25, nameIndex := 292, descriptorIndex := 25, attributes := #[] }, { accessFlags := 26, nameIndex := 108, descriptorIndex := 109, attributes := #[] }, { accessFlags := 25, nameIndex := 294, descriptorIndex := 25, attributes := #[] }])
  fields := #[{ name := "U", type := (.object "jdk/internal/misc/Unsafe"), accessFlags := 24, slot := 0, constantValue := 0 }, { name := "BIG_ENDIAN", type := .boolean, accessFlags := 26, slot := 1, constantValue := 0 }, { name := "LOG2_ARRAY_BOOLEAN_INDEX_SCALE", type := .int, accessFlags := 25, slot := 2, constantValue := 0 }, { name := "LOG2_ARRAY_BYTE_INDEX_SCALE", type := .int, accessFlags := 25, slot := 3, constantValue := 0 }, { name := "LOG2_ARRAY_CHAR_INDEX_SCALE", type := .int, accessFlags := 25, slot := 4, constantValue := 0 }, { name := "LOG2_ARRAY_SHORT_INDEX_SCALE", type := .int, accessFlags := 25, slot := 5, constantValue := 0 }, { name := "LOG2_ARRAY_INT_INDEX_SCALE", type := .int, accessFlags := 25, slot := 6, constantValue := 0 }, { name := "LOG2_ARRAY_LONG_INDEX_SCALE", type := .int, accessFlags := 25, slot := 7, constantValue := 0 }, { name := "LOG2_ARRAY_FLOAT_INDEX_SCALE", type := .int, accessFlags := 25, slot := 8, constantValue := 0 }, { name := "LOG2_ARRAY_DOUBLE_INDEX_SCALE", type := .int, accessFlags := 25, slot := 9, constantValue := 0 }, { name := "LOG2_BYTE_BIT_SIZE", type := .int, accessFlags := 26, slot := 10, constantValue := 0 }, { name := "T_BOOLEAN", type := .int, accessFlags := 25, slot := 11, constantValue := 0 }, { name := "T_CHAR", type := .int, accessFlags := 25, slot := 12, constantValue := 0 }, { name := "T_FLOAT", type := .int, accessFlags := 25, slot := 13, constantValue := 0 }, { name := "T_DOUBLE", type := .int, accessFlags := 25, slot := 14, constantValue := 0 }, { name := "T_BYTE", type := .int, accessFlags := 25, slot := 15, constantValue := 0 }, { name := "T_SHORT", type := .int, accessFlags := 25, slot := 16, constantValue := 0 }, { name := "T_INT", type := .int, accessFlags := 25, slot := 17, constantValue := 0 }, { name := "T_LONG", type := .int, accessFlags := 25, slot := 18, constantValue := 0 }, { name := "JLA", type := (.object "jdk/internal/access/JavaLangAccess"), accessFlags := 26, slot := 19, constantValue := 0 }, { name := "SOFT_MAX_ARRAY_LENGTH", type := .int, accessFlags := 25, slot := 20, constantValue := 0 }]
  methods := #[k14m0]
  instanceTypes := #[]
  staticTypes := #[(.object "jdk/internal/misc/Unsafe"), .boolean, .int, .int, .int, .int, .int, .int, .int, .int, .int, .int, .int, .int, .int, .int, .int, .int, .int, (.object "jdk/internal/access/JavaLangAccess"), .int]
  resolved := Array.replicate 378 none
  statics := none }

/-- the primitive byte -/
def k15 : Class := { plain "byte" none with kind := .primitive 'B', accessFlags := 0x411 }
/-- [B -/
def k16 : Class := { plain "[B" (some 0) with kind := .array 15 .byte, interfaces := #[13, 2], accessFlags := 1041 }

/-- the primitive char -/
def k17 : Class := { plain "char" none with kind := .primitive 'C', accessFlags := 0x411 }
/-- [C -/
def k18 : Class := { plain "[C" (some 0) with kind := .array 17 .char, interfaces := #[13, 2], accessFlags := 1041 }

/-- the primitive int -/
def k19 : Class := { plain "int" none with kind := .primitive 'I', accessFlags := 0x411 }
/-- [I -/
def k20 : Class := { plain "[I" (some 0) with kind := .array 19 .int, interfaces := #[13, 2], accessFlags := 1041 }

/-- [Lcom/example/millrace/millrace/definition/NodeKind; -/
def k21 : Class := { plain "[Lcom/example/millrace/millrace/definition/NodeKind;" (some 0) with kind := .array 9 (.object "com/example/millrace/millrace/definition/NodeKind"), interfaces := #[13, 2], accessFlags := 1041 }

def heap : Heap := #[{ cls := 7, slots := #[.long 0, .int 1, .null, .int 0, .null, .int 0, .int 0], vm := .statics 7 },
  { cls := 9, slots := #[.ref 4, .ref 5, .ref 6, .ref 7, .ref 3], vm := .statics 9 },
  { cls := 11, slots := #[.null, .null, .null], vm := .statics 11 },
  { cls := 21, slots := #[.ref 4, .ref 5, .ref 6, .ref 7], vm := .none },
  { cls := 9, slots := #[.null, .int 0, .int 0, .ref 8], vm := .none },
  { cls := 9, slots := #[.null, .int 1, .int 0, .ref 9], vm := .none },
  { cls := 9, slots := #[.null, .int 2, .int 0, .ref 10], vm := .none },
  { cls := 9, slots := #[.null, .int 3, .int 0, .ref 11], vm := .none },
  { cls := 7, slots := #[.ref 12, .int 0, .int 0, .int 0], vm := .none },
  { cls := 7, slots := #[.ref 13, .int 0, .int 0, .int 0], vm := .none },
  { cls := 7, slots := #[.ref 14, .int 0, .int 0, .int 0], vm := .none },
  { cls := 7, slots := #[.ref 15, .int 0, .int 0, .int 0], vm := .none },
  { cls := 16, slots := #[.int 115, .int 116, .int 97, .int 114, .int 116], vm := .none },
  { cls := 16, slots := #[.int 97, .int 99, .int 116, .int 105, .int 118, .int 105, .int 116, .int 121], vm := .none },
  { cls := 16, slots := #[.int 115, .int 121, .int 110, .int 99, .int 104, .int 114, .int 111, .int 110, .int 105, .int 122, .int 101, .int 114], vm := .none },
  { cls := 16, slots := #[.int 101, .int 110, .int 100], vm := .none }]
def classes : Array Class := #[k0, k1, k2, k3, k4, k5, k6, k7, k8, k9, k10, k11, k12, k13, k14, k15, k16, k17, k18, k19, k20, k21]
def interned : List (Array UInt16 × Addr) := []
def slotsUsed : Nat := 79
def theMethod : MethodId := ⟨1, 1⟩
def args0 : Array Value := #[.int 1, .int 1, .int 3, .int 65, .int 2]
def aboutOver (below : List Frame) : State where
  vm := { classes := classes, interned := interned.toArray }
  heap := heap
  slotsUsed := slotsUsed
  threads := #[{ frames := .invoking theMethod args0 :: below }]
def below0 : List Frame := [.native { method := ⟨0, 0⟩, args := #[] }]
def about1 : State := aboutOver below0
def p0 : Program := .bare "" "" ""
def e0 : Env := launch0.env 0 0 0
theorem w_frames : about1.frames = Frame.invoking theMethod args0 :: below0 := rfl
set_option maxRecDepth 65536 in
theorem w_args : argsFit about1.vm theMethod args0 = true := by decide +kernel
set_option maxRecDepth 65536 in
theorem w_heap : heapFits about1 = true := by decide +kernel
set_option maxRecDepth 65536 in
theorem w_runnable : about1.curStatus? = some .runnable := by decide +kernel
set_option maxRecDepth 65536 in
theorem w_alone : about1.alone = true := by decide +kernel
set_option maxRecDepth 65536 in
theorem w_named : about1.methodNamed? x = some theMethod := by decide +kernel
set_option maxRecDepth 65536 in
theorem w_hears : about1.hears theMethod below0 = true := by decide +kernel
set_option maxRecDepth 65536 in
theorem w_ripe : about1.ripe theMethod args0 below0 = true := by decide +kernel
theorem w_running : about1.status = .running := rfl
set_option maxRecDepth 65536 in
theorem w_room : about1.hasRoom e0.platform room_1 = true :=
  launch0.hasRoom_least _ room_1 (by decide +kernel) (by decide +kernel) (by decide +kernel) (by decide +kernel) (by decide +kernel) (by decide +kernel)
theorem allAtoms_all (ts : List Jvm.Cond) (a : Array Jvm.Value) (st : Jvm.State) : (allAtoms ts).before a st = ts.all (fun c => c.before a st) := by
  induction ts with
  | nil => rfl
  | cons c t ih =>
    show (Jvm.Cond.and c (allAtoms t)).before a st = _
    rw [Jvm.Cond.before_and, ih, List.all_cons]
def words1 : List Jvm.Cond := Jvm.Cond.code x code maxLocals ret :: tables_1
/-- a 'code' word, met by the world's own term for the bytes: nothing is compared byte by byte -/
theorem code_word {y : MethodName} {bytes : ByteArray} {mx : Nat} {rt : Option FieldType} {a : Array Value} {s : State} {m : MethodId} {meth : Method} {c : Code} (h1 : s.methodNamed? y = some m) (h2 : s.vm.method? m = some meth) (h3 : meth.code = some c) (h4 : c.code = bytes)
    (h5 : (c.maxLocals == mx && c.exceptionTable.isEmpty && decide (c.maxStack ≤ mostOperands) && decide (meth.sig.returnType = rt) && !meth.locks && decide (parseMethodDescriptor y.desc = some meth.sig)) = true) : (Jvm.Cond.code y bytes mx rt).before a s = true := by
  simp only [Bool.and_eq_true, beq_iff_eq, Bool.not_eq_true', decide_eq_true_eq] at h5
  obtain ⟨⟨⟨⟨⟨g1, g2⟩, g3⟩, g4⟩, g5⟩, g6⟩ := h5
  simp [Cond.before, Cond.holds, Cond.value, h1, h2, h3, h4, g1, g2, g3, g4, g5, g6]
def isCode : Jvm.Cond → Bool
  | .code _ _ _ _ => true
  | _ => false
theorem all_split {L : List Jvm.Cond} {P : Jvm.Cond → Bool} (h1 : L.all (fun c => isCode c || P c) = true) (h2 : ∀ c ∈ L.filter isCode, P c = true) : L.all P = true := by
  refine List.all_eq_true.mpr fun c hc => ?_
  have h := List.all_eq_true.mp h1 c hc
  rcases Bool.eq_false_or_eq_true (isCode c) with hi | hi
  · exact h2 c (List.mem_filter.mpr ⟨hc, hi⟩)
  · simpa [hi] using h
set_option maxRecDepth 65536 in
theorem w_c0 : (Jvm.Cond.code x code maxLocals ret).before args0 about1 = true := code_word (m := ⟨1, 1⟩) (meth := k1m1) (c := k1c1) (by decide +kernel) rfl rfl rfl (by decide +kernel)
set_option maxRecDepth 65536 in
theorem w_c1 : (Jvm.Cond.code ({ cls := "java/lang/String", name := "length", desc := "()I" } : Jvm.MethodName) jdk_42_method_54_code (1 : Nat) (Option.some Jvm.ClassFile.FieldType.int)).before args0 about1 = true := code_word (m := ⟨7, 2⟩) (meth := k7m2) (c := k7c2) (by decide +kernel) rfl rfl rfl (by decide +kernel)
set_option maxRecDepth 65536 in
theorem w_c2 : (Jvm.Cond.code ({ cls := "java/lang/String", name := "coder", desc := "()B" } : Jvm.MethodName) jdk_42_method_152_code (1 : Nat) (Option.some Jvm.ClassFile.FieldType.byte)).before args0 about1 = true := code_word (m := ⟨7, 6⟩) (meth := k7m6) (c := k7c6) (by decide +kernel) rfl rfl rfl (by decide +kernel)
set_option maxRecDepth 65536 in
theorem w_c3 : (Jvm.Cond.code ({ cls := "com/example/millrace/millrace/definition/NodeKindOfElementPinLaw", name := "at", desc := "(Ljava/lang/String;II)C" } : Jvm.MethodName) method_3_code (3 : Nat) (Option.some Jvm.ClassFile.FieldType.char)).before args0 about1 = true := code_word (m := ⟨1, 2⟩) (meth := k1m2) (c := k1c2) (by decide +kernel) rfl rfl rfl (by decide +kernel)
set_option maxRecDepth 65536 in
theorem w_c4 : (Jvm.Cond.code ({ cls := "java/lang/String", name := "charAt", desc := "(I)C" } : Jvm.MethodName) jdk_42_method_56_code (2 : Nat) (Option.some Jvm.ClassFile.FieldType.char)).before args0 about1 = true := code_word (m := ⟨7, 3⟩) (meth := k7m3) (c := k7c3) (by decide +kernel) rfl rfl rfl (by decide +kernel)
set_option maxRecDepth 65536 in
theorem w_c5 : (Jvm.Cond.code ({ cls := "java/lang/String", name := "isLatin1", desc := "()Z" } : Jvm.MethodName) jdk_42_method_154_code (1 : Nat) (Option.some Jvm.ClassFile.FieldType.boolean)).before args0 about1 = true := code_word (m := ⟨7, 7⟩) (meth := k7m7) (c := k7c7) (by decide +kernel) rfl rfl rfl (by decide +kernel)
set_option maxRecDepth 65536 in
theorem w_c6 : (Jvm.Cond.code ({ cls := "java/lang/StringLatin1", name := "charAt", desc := "([BI)C" } : Jvm.MethodName) jdk_43_method_2_code (2 : Nat) (Option.some Jvm.ClassFile.FieldType.char)).before args0 about1 = true := code_word (m := ⟨10, 1⟩) (meth := k10m1) (c := k10c1) (by decide +kernel) rfl rfl rfl (by decide +kernel)
set_option maxRecDepth 65536 in
theorem w_c7 : (Jvm.Cond.code ({ cls := "java/lang/String", name := "checkIndex", desc := "(II)V" } : Jvm.MethodName) jdk_42_method_155_code (2 : Nat) (Option.none : Option Jvm.ClassFile.FieldType)).before args0 about1 = true := code_word (m := ⟨7, 8⟩) (meth := k7m8) (c := k7c8) (by decide +kernel) rfl rfl rfl (by decide +kernel)
set_option maxRecDepth 65536 in
theorem w_c8 : (Jvm.Cond.code ({ cls := "jdk/internal/util/Preconditions", name := "checkIndex", desc := "(IILjava/util/function/BiFunction;)I" } : Jvm.MethodName) jdk_41_method_11_code (3 : Nat) (Option.some Jvm.ClassFile.FieldType.int)).before args0 about1 = true := code_word (m := ⟨11, 1⟩) (meth := k11m1) (c := k11c1) (by decide +kernel) rfl rfl rfl (by decide +kernel)
set_option maxRecDepth 65536 in
theorem w_c9 : (Jvm.Cond.code ({ cls := "com/example/millrace/millrace/definition/NodeKindOfElementPinLaw", name := "prefix", desc := "([CI)Ljava/lang/String;" } : Jvm.MethodName) method_4_code (2 : Nat) (Option.some (Jvm.ClassFile.FieldType.object "java/lang/String"))).before args0 about1 = true := code_word (m := ⟨1, 3⟩) (meth := k1m3) (c := k1c3) (by decide +kernel) rfl rfl rfl (by decide +kernel)
set_option maxRecDepth 65536 in
theorem w_c10 : (Jvm.Cond.code ({ cls := "java/lang/String", name := "<init>", desc := "([C)V" } : Jvm.MethodName) jdk_42_method_3_code (2 : Nat) (Option.none : Option Jvm.ClassFile.FieldType)).before args0 about1 = true := code_word (m := ⟨7, 1⟩) (meth := k7m1) (c := k7c1) (by decide +kernel) rfl rfl rfl (by decide +kernel)
set_option maxRecDepth 65536 in
theorem w_c11 : (Jvm.Cond.code ({ cls := "java/lang/String", name := "<init>", desc := "([CIILjava/lang/Void;)V" } : Jvm.MethodName) jdk_42_method_149_code (6 : Nat) (Option.none : Option Jvm.ClassFile.FieldType)).before args0 about1 = true := code_word (m := ⟨7, 5⟩) (meth := k7m5) (c := k7c5) (by decide +kernel) rfl rfl rfl (by decide +kernel)
set_option maxRecDepth 65536 in
theorem w_c12 : (Jvm.Cond.code ({ cls := "java/lang/Object", name := "<init>", desc := "()V" } : Jvm.MethodName) object_method_1_code (1 : Nat) (Option.none : Option Jvm.ClassFile.FieldType)).before args0 about1 = true := code_word (m := ⟨0, 0⟩) (meth := k0m0) (c := k0c0) (by decide +kernel) rfl rfl rfl (by decide +kernel)
set_option maxRecDepth 65536 in
theorem w_c13 : (Jvm.Cond.code ({ cls := "java/lang/StringUTF16", name := "compress", desc := "([CII)[B" } : Jvm.MethodName) jdk_52_method_16_code (6 : Nat) (Option.some (Jvm.ClassFile.FieldType.array Jvm.ClassFile.FieldType.byte))).before args0 about1 = true := code_word (m := ⟨12, 2⟩) (meth := k12m2) (c := k12c2) (by decide +kernel) rfl rfl rfl (by decide +kernel)
set_option maxRecDepth 65536 in
theorem w_c14 : (Jvm.Cond.code ({ cls := "java/lang/StringUTF16", name := "compress", desc := "([CI[BII)I" } : Jvm.MethodName) jdk_52_method_21_code (7 : Nat) (Option.some Jvm.ClassFile.FieldType.int)).before args0 about1 = true := code_word (m := ⟨12, 3⟩) (meth := k12m3) (c := k12c3) (by decide +kernel) rfl rfl rfl (by decide +kernel)
set_option maxRecDepth 65536 in
theorem w_c15 : (Jvm.Cond.code ({ cls := "java/lang/StringUTF16", name := "coderFromArrayLen", desc := "([BI)B" } : Jvm.MethodName) jdk_52_method_15_code (2 : Nat) (Option.some Jvm.ClassFile.FieldType.byte)).before args0 about1 = true := code_word (m := ⟨12, 1⟩) (meth := k12m1) (c := k12c1) (by decide +kernel) rfl rfl rfl (by decide +kernel)
set_option maxRecDepth 65536 in
theorem w_c16 : (Jvm.Cond.code ({ cls := "com/example/millrace/millrace/definition/NodeKind", name := "ofElement", desc := "(Ljava/lang/String;)Lcom/example/millrace/millrace/definition/NodeKind;" } : Jvm.MethodName) prog_16_method_5_code (5 : Nat) (Option.some (Jvm.ClassFile.FieldType.object "com/example/millrace/millrace/definition/NodeKind"))).before args0 about1 = true := code_word (m := ⟨9, 1⟩) (meth := k9m1) (c := k9c1) (by decide +kernel) rfl rfl rfl (by decide +kernel)
set_option maxRecDepth 65536 in
theorem w_c17 : (Jvm.Cond.code ({ cls := "com/example/millrace/millrace/definition/NodeKind", name := "values", desc := "()[Lcom/example/millrace/millrace/definition/NodeKind;" } : Jvm.MethodName) prog_16_method_1_code (0 : Nat) (Option.some (Jvm.ClassFile.FieldType.array (Jvm.ClassFile.FieldType.object "com/example/millrace/millrace/definition/NodeKind")))).before args0 about1 = true := code_word (m := ⟨9, 0⟩) (meth := k9m0) (c := k9c0) (by decide +kernel) rfl rfl rfl (by decide +kernel)
set_option maxRecDepth 65536 in
theorem w_c18 : (Jvm.Cond.code ({ cls := "java/lang/String", name := "equals", desc := "(Ljava/lang/Object;)Z" } : Jvm.MethodName) jdk_42_method_66_code (3 : Nat) (Option.some Jvm.ClassFile.FieldType.boolean)).before args0 about1 = true := code_word (m := ⟨7, 4⟩) (meth := k7m4) (c := k7c4) (by decide +kernel) rfl rfl rfl (by decide +kernel)
set_option maxRecDepth 65536 in
theorem w_c19 : (Jvm.Cond.code ({ cls := "java/lang/StringLatin1", name := "equals", desc := "([B[B)Z" } : Jvm.MethodName) jdk_43_method_13_code (3 : Nat) (Option.some Jvm.ClassFile.FieldType.boolean)).before args0 about1 = true := code_word (m := ⟨10, 2⟩) (meth := k10m2) (c := k10c2) (by decide +kernel) rfl rfl rfl (by decide +kernel)
def codes1 : List Jvm.Cond := [Jvm.Cond.code x code maxLocals ret, Jvm.Cond.code ({ cls := "java/lang/String", name := "length", desc := "()I" } : Jvm.MethodName) jdk_42_method_54_code (1 : Nat) (Option.some Jvm.ClassFile.FieldType.int), Jvm.Cond.code ({ cls := "java/lang/String", name := "coder", desc := "()B" } : Jvm.MethodName) jdk_42_method_152_code (1 : Nat) (Option.some Jvm.ClassFile.FieldType.byte), Jvm.Cond.code ({ cls := "com/example/millrace/millrace/definition/NodeKindOfElementPinLaw", name := "at", desc := "(Ljava/lang/String;II)C" } : Jvm.MethodName) method_3_code (3 : Nat) (Option.some Jvm.ClassFile.FieldType.char), Jvm.Cond.code ({ cls := "java/lang/String", name := "charAt", desc := "(I)C" } : Jvm.MethodName) jdk_42_method_56_code (2 : Nat) (Option.some Jvm.ClassFile.FieldType.char), Jvm.Cond.code ({ cls := "java/lang/String", name := "isLatin1", desc := "()Z" } : Jvm.MethodName) jdk_42_method_154_code (1 : Nat) (Option.some Jvm.ClassFile.FieldType.boolean), Jvm.Cond.code ({ cls := "java/lang/StringLatin1", name := "charAt", desc := "([BI)C" } : Jvm.MethodName) jdk_43_method_2_code (2 : Nat) (Option.some Jvm.ClassFile.FieldType.char), Jvm.Cond.code ({ cls := "java/lang/String", name := "checkIndex", desc := "(II)V" } : Jvm.MethodName) jdk_42_method_155_code (2 : Nat) (Option.none : Option Jvm.ClassFile.FieldType), Jvm.Cond.code ({ cls := "jdk/internal/util/Preconditions", name := "checkIndex", desc := "(IILjava/util/function/BiFunction;)I" } : Jvm.MethodName) jdk_41_method_11_code (3 : Nat) (Option.some Jvm.ClassFile.FieldType.int), Jvm.Cond.code ({ cls := "com/example/millrace/millrace/definition/NodeKindOfElementPinLaw", name := "prefix", desc := "([CI)Ljava/lang/String;" } : Jvm.MethodName) method_4_code (2 : Nat) (Option.some (Jvm.ClassFile.FieldType.object "java/lang/String")), Jvm.Cond.code ({ cls := "java/lang/String", name := "<init>", desc := "([C)V" } : Jvm.MethodName) jdk_42_method_3_code (2 : Nat) (Option.none : Option Jvm.ClassFile.FieldType), Jvm.Cond.code ({ cls := "java/lang/String", name := "<init>", desc := "([CIILjava/lang/Void;)V" } : Jvm.MethodName) jdk_42_method_149_code (6 : Nat) (Option.none : Option Jvm.ClassFile.FieldType), Jvm.Cond.code ({ cls := "java/lang/Object", name := "<init>", desc := "()V" } : Jvm.MethodName) object_method_1_code (1 : Nat) (Option.none : Option Jvm.ClassFile.FieldType), Jvm.Cond.code ({ cls := "java/lang/StringUTF16", name := "compress", desc := "([CII)[B" } : Jvm.MethodName) jdk_52_method_16_code (6 : Nat) (Option.some (Jvm.ClassFile.FieldType.array Jvm.ClassFile.FieldType.byte)), Jvm.Cond.code ({ cls := "java/lang/StringUTF16", name := "compress", desc := "([CI[BII)I" } : Jvm.MethodName) jdk_52_method_21_code (7 : Nat) (Option.some Jvm.ClassFile.FieldType.int), Jvm.Cond.code ({ cls := "java/lang/StringUTF16", name := "coderFromArrayLen", desc := "([BI)B" } : Jvm.MethodName) jdk_52_method_15_code (2 : Nat) (Option.some Jvm.ClassFile.FieldType.byte), Jvm.Cond.code ({ cls := "com/example/millrace/millrace/definition/NodeKind", name := "ofElement", desc := "(Ljava/lang/String;)Lcom/example/millrace/millrace/definition/NodeKind;" } : Jvm.MethodName) prog_16_method_5_code (5 : Nat) (Option.some (Jvm.ClassFile.FieldType.object "com/example/millrace/millrace/definition/NodeKind")), Jvm.Cond.code ({ cls := "com/example/millrace/millrace/definition/NodeKind", name := "values", desc := "()[Lcom/example/millrace/millrace/definition/NodeKind;" } : Jvm.MethodName) prog_16_method_1_code (0 : Nat) (Option.some (Jvm.ClassFile.FieldType.array (Jvm.ClassFile.FieldType.object "com/example/millrace/millrace/definition/NodeKind"))), Jvm.Cond.code ({ cls := "java/lang/String", name := "equals", desc := "(Ljava/lang/Object;)Z" } : Jvm.MethodName) jdk_42_method_66_code (3 : Nat) (Option.some Jvm.ClassFile.FieldType.boolean), Jvm.Cond.code ({ cls := "java/lang/StringLatin1", name := "equals", desc := "([B[B)Z" } : Jvm.MethodName) jdk_43_method_13_code (3 : Nat) (Option.some Jvm.ClassFile.FieldType.boolean)]
set_option maxRecDepth 65536 in
theorem codes_eq : words1.filter isCode = codes1 := rfl
theorem w_codes : ∀ c ∈ words1.filter isCode, c.before args0 about1 = true := by
  rw [codes_eq]
  intro c hc
  simp only [codes1, List.mem_cons, List.not_mem_nil, or_false] at hc
  rcases hc with rfl | rfl | rfl | rfl | rfl | rfl | rfl | rfl | rfl | rfl | rfl | rfl | rfl | rfl | rfl | rfl | rfl | rfl | rfl | rfl
  · exact w_c0
  · exact w_c1
  · exact w_c2
  · exact w_c3
  · exact w_c4
  · exact w_c5
  · exact w_c6
  · exact w_c7
  · exact w_c8
  · exact w_c9
  · exact w_c10
  · exact w_c11
  · exact w_c12
  · exact w_c13
  · exact w_c14
  · exact w_c15
  · exact w_c16
  · exact w_c17
  · exact w_c18
  · exact w_c19
set_option maxRecDepth 65536 in
theorem w_t1 : (words1.take 24).all (fun c => isCode c || c.before args0 about1) = true := by decide +kernel
set_option maxRecDepth 65536 in
theorem w_t2 : ((words1.drop 24).take 24).all (fun c => isCode c || c.before args0 about1) = true := by decide +kernel
set_option maxRecDepth 65536 in
theorem w_t3 : (((words1.drop 24).drop 24).take 24).all (fun c => isCode c || c.before args0 about1) = true := by decide +kernel
set_option maxRecDepth 65536 in
theorem w_t4 : ((((words1.drop 24).drop 24).drop 24).take 24).all (fun c => isCode c || c.before args0 about1) = true := by decide +kernel
set_option maxRecDepth 65536 in
theorem w_t5 : ((((words1.drop 24).drop 24).drop 24).drop 24).all (fun c => isCode c || c.before args0 about1) = true := by decide +kernel
theorem w_tables : (allAtoms (Jvm.Cond.code x code maxLocals ret :: tables_1)).before args0 about1 = true := by
  rw [allAtoms_all]
  show words1.all (fun c => c.before args0 about1) = true
  refine all_split ?_ w_codes
  rw [← List.take_append_drop 24 words1, List.all_append, w_t1, ← List.take_append_drop 24 (words1.drop 24), List.all_append, w_t2, ← List.take_append_drop 24 ((words1.drop 24).drop 24), List.all_append, w_t3, ← List.take_append_drop 24 (((words1.drop 24).drop 24).drop 24), List.all_append, w_t4, w_t5]
  rfl
set_option maxRecDepth 65536 in
theorem w_rest : rest_1_c.before args0 about1 = true := by decide +kernel
set_option maxRecDepth 65536 in
theorem w_case : (Jvm.Cond.and given_1 narrow_1).before args0 about1 = true := by decide +kernel
set_option maxRecDepth 65536 in
theorem w_consts : constsHeld consts_1 about1 := Jvm.Lit.constsHeldB_iff.mp (by decide +kernel)
theorem w_applies : (headSpec (Jvm.Cond.code x code maxLocals ret :: tables_1) room_1).applies x e0.platform about1 = true :=
  (Spec.applies_iff w_frames).mpr ⟨w_running, w_runnable, w_alone, w_named, w_hears, w_ripe, w_room, w_tables⟩
theorem atStart : AtStart classFile x code maxLocals ret World_1 tables_1 room_1 Calls_1 rest_1 Pre_1 launch0 p0 e0 about1 theMethod args0 below0 :=
  ⟨lists_1, trivial, launch0.admits_env _ _ _, launch0.least_env, fairChoices_fair.cas, fairChoices_fair.clock, w_frames, w_args, w_heap, w_applies, ⟨w_consts, trivial⟩, w_rest, w_case⟩
end start1
theorem witness_1 : WitnessClaimed_1 := ⟨start1.p0, start1.e0, start1.about1, start1.theMethod, start1.args0, start1.below0, start1.atStart⟩
end Jvm.Pilot.@@N@@
