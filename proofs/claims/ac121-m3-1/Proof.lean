import JvmDerived
import JvmDerived.Pilot.@@N@@Statement
import JvmDerived.Pilot.@@N@@Code
set_option linter.unusedVariables false
set_option linter.unusedSimpArgs false
namespace Jvm.RoadKit
open Sem ClassFile Op Lib Jvm.Stand Jvm.Free Jvm.LawKit
section New
variable {p : Program} {l : Launch} {e : Env} {R : Room} {s : State} {m : MethodId} {args : Array Value} {below : List Frame} {meth : Method} {c : Code} {T : State} {locs : List Loc} {cells slots : Nat}
theorem retI (X : Stand p l e R s m args below meth c T locs cells slots) (hx : p.tables.exec = Jvm.exec) {pc : Nat} {Ls : Array Slot} {z : Int32} {rest : List Value} (hret : meth.sig.returnType = some .int) (hd : decode c.code pc = .ok (.ireturn, 1)) {fs : List Frame}
    (hl : ∀ (f : JFrame) (acts : List Action), f.method = m → f.locked = none → f.entered = [] → (doReturn e (T.setTop f) acts (some (.int z))).1 = T.setFrames fs) : Steps p.tables e below (T.setTop (mkF m pc Ls (.int z :: rest))) (T.setFrames fs) := by
  have hm' : T.vm.method? m = some meth := X.method'
  have hn : narrow .int (.int z) = .int z := rfl
  show Steps p.tables e below (T.setTop { method := m, pc := pc, locals := Ls, stack := _ :: rest, locked := none }) _
  jvm_step X.here [X.here.top, hx, hd, hm', hret, hn]
  first | (intro acts; rw [hl _ acts rfl rfl rfl]) | rw [hl _ _ rfl rfl rfl]
  exact Steps.refl _
end New
end Jvm.RoadKit
namespace Jvm.Pilot.@@N@@
open Jvm Jvm.ClassFile Sem Op Lib Jvm.Free Jvm.Stand Jvm.LawKit Jvm.RoadKit Bundle Jvm.Pilot.@@N@@.Jvm.D
theorem own_nb {P : Prop} [Decidable P] : nar .boolean (if P then (1 : Int32) else (0 : Int32)) = if P then (1 : Int32) else (0 : Int32) := by split <;> rfl
theorem own_nb2 {z : Int32} (h : z = 0 ∨ z = 1) : nar .boolean z = z := by rcases h with rfl | rfl <;> rfl
theorem own_01 {P : Prop} [Decidable P] : (if P then (1 : Int32) else (0 : Int32)) = 0 ∨ (if P then (1 : Int32) else (0 : Int32)) = 1 := by split <;> simp
theorem own_iv {a b : Int32} (h : a = b) : some (Value.int a) = some (Value.int b) := by rw [h]
theorem own_lv {a b : Int64} (h : a = b) : some (Value.long a) = some (Value.long b) := by rw [h]
theorem own_selP {args : Array Value} {s : State} {y : MethodName} {n : Nat} (hi : (Jvm.Cond.instantiable y.cls n).before args s = true) (hp : (Jvm.Cond.privateMethod y).before args s = true) (hm : (Jvm.Cond.instanceMethod y).before args s = true) (hy : y.cls ≠ "java/lang/invoke/MethodHandle" ∧ y.cls ≠ "java/lang/invoke/VarHandle") : (Jvm.Cond.selects y.cls y y).before args s = true := by
  obtain ⟨c, k, h1, h2, -, h4, -⟩ := Cond.instantiable_spec hi
  exact Jvm.Stand.selects_self_of_private h1 h2 (by simp only [Bool.or_eq_false_iff] at h4; exact h4.1) (Cond.privateMethod_at hp) hm hy
def own_l16 (v : Int32) : List Int32 := [(((v.toUInt32 >>> ((8 : Int32) &&& 31).toUInt32).toInt32).toInt8.toInt32), (v.toInt8.toInt32)]
def own_l32 (v : Int32) : List Int32 := [(((v.toUInt32 >>> ((24 : Int32) &&& 31).toUInt32).toInt32).toInt8.toInt32), (((v.toUInt32 >>> ((16 : Int32) &&& 31).toUInt32).toInt32).toInt8.toInt32), (((v.toUInt32 >>> ((8 : Int32) &&& 31).toUInt32).toInt32).toInt8.toInt32), (v.toInt8.toInt32)]
def own_l64 (v : Int64) : List Int32 := own_l32 (((v.toUInt64 >>> ((32 : Int32) &&& 0x3f).toInt64.toUInt64).toInt64).toInt32) ++ own_l32 (v.toInt32)
theorem own_sh0 (v : Int32) : ((v.toUInt32 >>> ((0 : Int32) &&& 31).toUInt32).toInt32) = v := by
  apply Int32.toBitVec_inj.mp
  simp
theorem own_q56 (v : Int64) : ((((v.toUInt64 >>> ((56 : Int32) &&& 0x3f).toInt64.toUInt64).toInt64).toInt32).toInt8.toInt32) = ((((((v.toUInt64 >>> ((32 : Int32) &&& 0x3f).toInt64.toUInt64).toInt64).toInt32).toUInt32 >>> ((24 : Int32) &&& 31).toUInt32).toInt32).toInt8.toInt32) := by
  refine congrArg Int8.toInt32 (Int8.toBitVec_inj.mp (BitVec.eq_of_getLsbD_eq fun i hi => ?_))
  have h1 : i < 64 := by omega
  have h2 : i < 32 := by omega
  have h3 : 24 + i < 64 := by omega
  have h4 : 24 + i < 32 := by omega
  have h5 : 32 + (24 + i) = 32 + 24 + i := by omega
  simp [BitVec.getElem_signExtend, BitVec.getLsbD_signExtend, BitVec.getLsbD_setWidth, BitVec.getLsbD_ushiftRight, hi, h1, h2, h3, h4, h5]
theorem own_q48 (v : Int64) : ((((v.toUInt64 >>> ((48 : Int32) &&& 0x3f).toInt64.toUInt64).toInt64).toInt32).toInt8.toInt32) = ((((((v.toUInt64 >>> ((32 : Int32) &&& 0x3f).toInt64.toUInt64).toInt64).toInt32).toUInt32 >>> ((16 : Int32) &&& 31).toUInt32).toInt32).toInt8.toInt32) := by
  refine congrArg Int8.toInt32 (Int8.toBitVec_inj.mp (BitVec.eq_of_getLsbD_eq fun i hi => ?_))
  have h1 : i < 64 := by omega
  have h2 : i < 32 := by omega
  have h3 : 16 + i < 64 := by omega
  have h4 : 16 + i < 32 := by omega
  have h5 : 32 + (16 + i) = 32 + 16 + i := by omega
  simp [BitVec.getElem_signExtend, BitVec.getLsbD_signExtend, BitVec.getLsbD_setWidth, BitVec.getLsbD_ushiftRight, hi, h1, h2, h3, h4, h5]
theorem own_q40 (v : Int64) : ((((v.toUInt64 >>> ((40 : Int32) &&& 0x3f).toInt64.toUInt64).toInt64).toInt32).toInt8.toInt32) = ((((((v.toUInt64 >>> ((32 : Int32) &&& 0x3f).toInt64.toUInt64).toInt64).toInt32).toUInt32 >>> ((8 : Int32) &&& 31).toUInt32).toInt32).toInt8.toInt32) := by
  refine congrArg Int8.toInt32 (Int8.toBitVec_inj.mp (BitVec.eq_of_getLsbD_eq fun i hi => ?_))
  have h1 : i < 64 := by omega
  have h2 : i < 32 := by omega
  have h3 : 8 + i < 64 := by omega
  have h4 : 8 + i < 32 := by omega
  have h5 : 32 + (8 + i) = 32 + 8 + i := by omega
  simp [BitVec.getElem_signExtend, BitVec.getLsbD_signExtend, BitVec.getLsbD_setWidth, BitVec.getLsbD_ushiftRight, hi, h1, h2, h3, h4, h5]
theorem own_q32 (v : Int64) : ((((v.toUInt64 >>> ((32 : Int32) &&& 0x3f).toInt64.toUInt64).toInt64).toInt32).toInt8.toInt32) = ((((v.toUInt64 >>> ((32 : Int32) &&& 0x3f).toInt64.toUInt64).toInt64).toInt32).toInt8.toInt32) := by
  refine congrArg Int8.toInt32 (Int8.toBitVec_inj.mp (BitVec.eq_of_getLsbD_eq fun i hi => ?_))
  have h1 : i < 64 := by omega
  have h2 : i < 32 := by omega
  have h3 : 0 + i < 64 := by omega
  have h4 : 0 + i < 32 := by omega
  have h5 : 32 + (0 + i) = 32 + 0 + i := by omega
  simp [BitVec.getElem_signExtend, BitVec.getLsbD_signExtend, BitVec.getLsbD_setWidth, BitVec.getLsbD_ushiftRight, hi, h1, h2, h3, h4, h5]
theorem own_q24 (v : Int64) : ((((v.toUInt64 >>> ((24 : Int32) &&& 0x3f).toInt64.toUInt64).toInt64).toInt32).toInt8.toInt32) = ((((v.toInt32).toUInt32 >>> ((24 : Int32) &&& 31).toUInt32).toInt32).toInt8.toInt32) := by
  refine congrArg Int8.toInt32 (Int8.toBitVec_inj.mp (BitVec.eq_of_getLsbD_eq fun i hi => ?_))
  have h1 : i < 64 := by omega
  have h2 : i < 32 := by omega
  have h3 : 24 + i < 64 := by omega
  have h4 : 24 + i < 32 := by omega
  have h5 : 32 + (24 + i) = 32 + 24 + i := by omega
  simp [BitVec.getElem_signExtend, BitVec.getLsbD_signExtend, BitVec.getLsbD_setWidth, BitVec.getLsbD_ushiftRight, hi, h1, h2, h3, h4, h5]
theorem own_q16 (v : Int64) : ((((v.toUInt64 >>> ((16 : Int32) &&& 0x3f).toInt64.toUInt64).toInt64).toInt32).toInt8.toInt32) = ((((v.toInt32).toUInt32 >>> ((16 : Int32) &&& 31).toUInt32).toInt32).toInt8.toInt32) := by
  refine congrArg Int8.toInt32 (Int8.toBitVec_inj.mp (BitVec.eq_of_getLsbD_eq fun i hi => ?_))
  have h1 : i < 64 := by omega
  have h2 : i < 32 := by omega
  have h3 : 16 + i < 64 := by omega
  have h4 : 16 + i < 32 := by omega
  have h5 : 32 + (16 + i) = 32 + 16 + i := by omega
  simp [BitVec.getElem_signExtend, BitVec.getLsbD_signExtend, BitVec.getLsbD_setWidth, BitVec.getLsbD_ushiftRight, hi, h1, h2, h3, h4, h5]
theorem own_q8 (v : Int64) : ((((v.toUInt64 >>> ((8 : Int32) &&& 0x3f).toInt64.toUInt64).toInt64).toInt32).toInt8.toInt32) = ((((v.toInt32).toUInt32 >>> ((8 : Int32) &&& 31).toUInt32).toInt32).toInt8.toInt32) := by
  refine congrArg Int8.toInt32 (Int8.toBitVec_inj.mp (BitVec.eq_of_getLsbD_eq fun i hi => ?_))
  have h1 : i < 64 := by omega
  have h2 : i < 32 := by omega
  have h3 : 8 + i < 64 := by omega
  have h4 : 8 + i < 32 := by omega
  have h5 : 32 + (8 + i) = 32 + 8 + i := by omega
  simp [BitVec.getElem_signExtend, BitVec.getLsbD_signExtend, BitVec.getLsbD_setWidth, BitVec.getLsbD_ushiftRight, hi, h1, h2, h3, h4, h5]
theorem own_q0 (v : Int64) : ((((v.toUInt64 >>> ((0 : Int32) &&& 0x3f).toInt64.toUInt64).toInt64).toInt32).toInt8.toInt32) = ((v.toInt32).toInt8.toInt32) := by
  refine congrArg Int8.toInt32 (Int8.toBitVec_inj.mp (BitVec.eq_of_getLsbD_eq fun i hi => ?_))
  have h1 : i < 64 := by omega
  have h2 : i < 32 := by omega
  have h3 : 0 + i < 64 := by omega
  have h4 : 0 + i < 32 := by omega
  have h5 : 32 + (0 + i) = 32 + 0 + i := by omega
  simp [BitVec.getElem_signExtend, BitVec.getLsbD_signExtend, BitVec.getLsbD_setWidth, BitVec.getLsbD_ushiftRight, hi, h1, h2, h3, h4, h5]
theorem own_ni (y : Int32) : nar .byte (y.toInt8.toInt32) = y.toInt8.toInt32 := by
  show (y.toInt8.toInt32).toInt8.toInt32 = _
  simp
theorem own_tn {z : Int32} {n : Nat} (h : z.toInt = (n : Int)) : z.toNatClampNeg = n := by simp only [Int32.toNatClampNeg]; omega
theorem own_push {Z : State} {h h' : Heap} {b : Addr} {k : ClassId} {cc j v : Int32} {D : List Int32} {cl : Cell} (A : Arr Z h b cl .byte) (q1 : cl.cls = k) (S : cl.slots.size = cc.toNatClampNeg) (M : ¬ cc < 0) (H : Has cl (D.map Value.int) (.int 0)) (G : ∀ i, i < cl.slots.size → fits .byte ((D.map Value.int).getD i (.int 0)) = true) (W : Wr h h' b j.toNatClampNeg (.int (nar .byte v))) (hv : nar .byte v = v) (hj : j.toInt = (D.length : Int)) : Arv Z h' b k .byte cc ((D ++ [v]).map Value.int) (.int 0) := by
  have V : Arv Z h b k .byte cc (D.map Value.int ++ List.replicate 1 (Value.int 0)) (.int 0) := Arv.pad ⟨cl, A, q1, S, M, H, G⟩ (pad_rep _ _ 1)
  obtain ⟨c2, A2, q2, S2, M2, H2, G2⟩ := V
  have r := Arv.set A2 q2 S2 M2 H2 G2 (fits_nar_byte v) W D.length (own_tn hj) (by simp)
  have e : (D.map Value.int ++ List.replicate 1 (Value.int 0)).set D.length (Value.int (v.toInt8.toInt32)) = (D ++ [v]).map Value.int := by
    have hv' : v.toInt8.toInt32 = v := hv
    rw [hv', List.set_append_right _ _ (by simp)]; simp
  rw [e] at r; exact r
theorem own_setP {Z : State} {h h' : Heap} {b : Addr} {k : ClassId} {cc j v : Int32} {P : List Int32} {cl : Cell} (A : Arr Z h b cl .byte) (q1 : cl.cls = k) (S : cl.slots.size = cc.toNatClampNeg) (M : ¬ cc < 0) (H : Has cl (P.map Value.int) (.int 0)) (G : ∀ i, i < cl.slots.size → fits .byte ((P.map Value.int).getD i (.int 0)) = true) (W : Wr h h' b j.toNatClampNeg (.int (nar .byte v))) (hv : nar .byte v = v) (i : Nat) (hj : j.toNatClampNeg = i) (hi : i < P.length) : Arv Z h' b k .byte cc ((P.set i v).map Value.int) (.int 0) := by
  have r := Arv.set A q1 S M H G (fits_nar_byte v) W i hj (by simpa using hi)
  have hv' : v.toInt8.toInt32 = v := hv
  rw [hv', ← List.map_set] at r; exact r
theorem own_rng (z : Int32) : -2147483648 ≤ z.toInt ∧ z.toInt < 2147483648 := ⟨Int32.le_toInt z, Int32.toInt_lt z⟩
theorem own_add {a b : Int32} {x y : Int} (h1 : a.toInt = x) (h2 : b.toInt = y) (h0 : 0 ≤ x) (h0' : 0 ≤ y) (hs : x + y ≤ 1000) : (a + b).toInt = x + y := by
  have := c_iadd a b; have := own_rng (a + b); omega
theorem own_ib {j cc : Int32} {n : Nat} (hj : j.toInt = (n : Int)) (hc : (n : Int) < cc.toInt) : ¬ j < 0 ∧ j < cc := by
  rw [Int32.lt_iff_toInt_lt, Int32.lt_iff_toInt_lt]; have : (0 : Int32).toInt = 0 := rfl
  omega
theorem own_hz1 {z v : Int32} {D : List Int32} (hz : z.toInt = (D.length : Int)) (hs : (D.length : Int) ≤ 200) : (z + (1 : Int32)).toInt = ((D ++ [v]).length : Int) := by
  rw [own_add hz (show (1 : Int32).toInt = 1 from rfl) (by omega) (by omega) (by omega)]; simp
theorem own_hzA {z y : Int32} {D E : List Int32} (hz : z.toInt = (D.length : Int)) (hy : y.toInt = (E.length : Int)) (hs : (D.length : Int) + E.length ≤ 1000) : (z + y).toInt = ((D ++ E).length : Int) := by
  rw [own_add hz hy (by omega) (by omega) hs]; simp
theorem own_le {z n cc : Int32} {a m : Nat} (hz : z.toInt = (a : Int)) (hn : n.toInt = (m : Int)) (hc : (a : Int) + m ≤ cc.toInt) (hs : cc.toInt ≤ 200) : ¬ cc < z + n := by
  rw [Int32.lt_iff_toInt_lt, own_add hz hn (by omega) (by omega) (by omega)]; omega
theorem own_rd {D A L B : List Int32} {za at_ j : Int32} (i : Nat) (hD : D = A ++ (L ++ B)) (ha : at_.toInt = (A.length : Int)) (hza : za.toInt = (D.length : Int)) (hj : j.toInt = at_.toInt + i) (hi : i < L.length) {v : Int32} (hv : L.getD i 0 = v) : (¬ j < 0 ∧ j < za) ∧ (D.map Value.int).getD j.toNatClampNeg (.int 0) = .int v := by
  have hl : D.length = A.length + (L.length + B.length) := by rw [hD]; simp
  refine ⟨own_ib (n := A.length + i) (by rw [hj, ha]; simp) (by rw [hza, hl]; simp; omega), ?_⟩
  rw [own_tn (n := A.length + i) (by rw [hj, ha]; simp), hD]
  rw [List.map_append, List.map_append, List.getD_eq_getElem?_getD, List.getElem?_append_right (by simp), List.length_map, Nat.add_sub_cancel_left, List.getElem?_append_left (by simpa using hi), List.getElem?_map]
  rw [List.getD_eq_getElem?_getD, List.getElem?_eq_getElem hi] at hv
  rw [List.getElem?_eq_getElem hi]; simpa using hv
theorem own_rd0 {D : List Int32} {z : Int32} (hz : z.toInt = (D.length : Int)) (h : (0 : Int32) < z) : (¬ (0 : Int32) < 0 ∧ (0 : Int32) < z) ∧ (D.map Value.int).getD (0 : Int32).toNatClampNeg (.int 0) = .int (D.getD 0 0) := by
  refine ⟨⟨by decide, h⟩, ?_⟩
  show (D.map Value.int).getD 0 (.int 0) = _
  cases D <;> rfl
theorem own_rdH {D B : List Int32} {v z : Int32} (hD : D = v :: B) (hz : z.toInt = (D.length : Int)) : (¬ (0 : Int32) < 0 ∧ (0 : Int32) < z) ∧ (D.map Value.int).getD (0 : Int32).toNatClampNeg (.int 0) = .int v := by
  have h : (0 : Int32) < z := by
    rw [Int32.lt_iff_toInt_lt, hz, hD]; have : (0 : Int32).toInt = 0 := rfl
    rw [this, List.length_cons]; omega
  have r := own_rd0 hz h
  refine ⟨r.1, r.2.trans ?_⟩
  rw [hD]; rfl
theorem own_pl {D : List Int32} {z : Int32} (hz : z.toInt = (D.length : Int)) (h : (0 : Int32) < z) : 0 < D.length := by
  rw [Int32.lt_iff_toInt_lt] at h; have : (0 : Int32).toInt = 0 := rfl
  omega
theorem own_app0 {D : List Int32} {v : Int32} (h : 0 < D.length) : (D ++ [v]).getD 0 0 = D.getD 0 0 := by
  cases D with
  | nil => simp at h
  | cons a r => rfl
theorem own_cat {D P : List Int32} {z y : Int32} (hz : z.toInt = (D.length : Int)) (hy : y.toInt = (P.length : Int)) : (D.map Value.int ++ List.replicate P.length (Value.int 0)).take z.toNatClampNeg ++ ((List.range y.toNatClampNeg).map fun i => (P.map Value.int).getD ((0 : Int32).toNatClampNeg + i) (.int 0)) ++ (D.map Value.int ++ List.replicate P.length (Value.int 0)).drop (z.toNatClampNeg + y.toNatClampNeg) = (D ++ P).map Value.int := by
  rw [own_tn hz, own_tn hy]
  have e1 : (List.range P.length).map (fun i => (P.map Value.int).getD ((0 : Int32).toNatClampNeg + i) (.int 0)) = P.map Value.int := by
    apply List.ext_getElem (by simp)
    intro i h1 h2
    have h3 : i < P.length := by simpa using h2
    have h0 : (0 : Int32).toNatClampNeg = 0 := rfl
    simp [h0, h3]
  have e2 : (D.map Value.int ++ List.replicate P.length (Value.int 0)).take D.length = D.map Value.int := by
    rw [List.take_append_of_le_length (by simp), List.take_of_length_le (by simp)]
  have e3 : (D.map Value.int ++ List.replicate P.length (Value.int 0)).drop (D.length + P.length) = [] := List.drop_of_length_le (by simp)
  rw [e1, e2, e3]; simp
theorem own_cp {D : List Int32} {m n : Int32} (hm : (D.length : Int) ≤ m.toInt) : ∀ i, (D.map Value.int).getD i (.int 0) = ((List.replicate n.toNatClampNeg (Value.int 0)).take (0 : Int32).toNatClampNeg ++ ((List.range m.toNatClampNeg).map fun i => (D.map Value.int).getD ((0 : Int32).toNatClampNeg + i) (.int 0)) ++ (List.replicate n.toNatClampNeg (Value.int 0)).drop ((0 : Int32).toNatClampNeg + m.toNatClampNeg)).getD i (.int 0) := by
  intro i
  have h0 : (0 : Int32).toNatClampNeg = 0 := rfl
  simp only [h0, List.take_zero, List.nil_append, Nat.zero_add]
  have hm' : D.length ≤ m.toNatClampNeg := by simp only [Int32.toNatClampNeg]; omega
  by_cases q : i < m.toNatClampNeg
  · rw [List.getD_eq_getElem?_getD (l := _ ++ _), List.getElem?_append_left (by simpa using q)]; simp [q]
  · rw [List.getD_eq_getElem?_getD (l := _ ++ _), List.getElem?_append_right (by simpa using q), List.getElem?_drop, List.getElem?_replicate]
    rw [List.getD_eq_getElem?_getD, List.getElem?_eq_none (by simp; omega)]
    split <;> rfl
theorem own_c64 {cc : Int32} (h : cc = 64 ∨ cc = 128) : 64 ≤ cc.toInt ∧ cc.toInt ≤ 128 := by rcases h with rfl | rfl <;> decide
theorem own_gr {cc z n : Int32} {a : Nat} (h : cc = 64 ∨ cc = 128) (hz : z.toInt = (a : Int)) (h0 : 0 ≤ n.toInt) (hn : (a : Int) + n.toInt ≤ 128) (hlt : cc < z + n) : cc = 64 ∧ cc * (2 : Int32) = 128 ∧ ¬ (cc * (2 : Int32) < z + n) := by
  rw [Int32.lt_iff_toInt_lt, own_add hz rfl (by omega) h0 (by omega)] at hlt
  rcases h with rfl | rfl
  · refine ⟨rfl, by decide, ?_⟩
    have e : ((64 : Int32) * 2).toInt = 128 := by decide
    rw [Int32.lt_iff_toInt_lt, own_add hz rfl (by omega) h0 (by omega), e]; omega
  · have e : (128 : Int32).toInt = 128 := by decide
    omega
theorem own_irr (u : Int32) : ¬ u < u := by rw [Int32.lt_iff_toInt_lt]; omega
theorem own_asy {a b : Int32} (h : a < b) : ¬ b < a := by rw [Int32.lt_iff_toInt_lt] at *; omega
theorem own_mm {m u1 u2 : Int32} {a : Int} (h : m = u1 ∨ m = u2) (h1 : ¬ u1 < m) (h2 : ¬ u2 < m) (d1 : a ≤ u1.toInt) (d2 : a ≤ u2.toInt) (h0 : 0 ≤ a) : ¬ m < 0 ∧ a ≤ m.toInt ∧ (0 : Int32).toNatClampNeg + m.toNatClampNeg ≤ u1.toNatClampNeg ∧ (0 : Int32).toNatClampNeg + m.toNatClampNeg ≤ u2.toNatClampNeg := by
  rw [Int32.lt_iff_toInt_lt] at h1 h2
  have e : (0 : Int32).toInt = 0 := rfl
  have e0 : (0 : Int32).toNatClampNeg = 0 := rfl
  rw [e0]
  refine ⟨by rw [Int32.lt_iff_toInt_lt]; rcases h with rfl | rfl <;> omega, by rcases h with rfl | rfl <;> omega, ?_, ?_⟩ <;> simp only [Int32.toNatClampNeg] <;> omega
theorem own_nn {n : Int32} {a : Int} (h : a ≤ n.toInt) (h0 : 0 ≤ a) : ¬ n < 0 := by
  rw [Int32.lt_iff_toInt_lt]; have e : (0 : Int32).toInt = 0 := rfl
  omega
theorem own_nc {n : Int32} (h : n.toInt ≤ 128) : n.toNatClampNeg ≤ 128 := by simp only [Int32.toNatClampNeg]; omega
theorem own_lei {z n cc : Int32} {a m : Nat} (hz : z.toInt = (a : Int)) (hn : n.toInt = (m : Int)) (h : ¬ cc < z + n) (hs : (a : Int) + m ≤ 1000) : (a : Int) + m ≤ cc.toInt := by
  rw [Int32.lt_iff_toInt_lt, own_add hz hn (by omega) (by omega) hs] at h; omega
theorem own_ac5 {z n cc : Int32} {a m : Nat} (hz : z.toInt = (a : Int)) (hn : n.toInt = (m : Int)) (h : (a : Int) + m ≤ cc.toInt) : z.toNatClampNeg + n.toNatClampNeg ≤ cc.toNatClampNeg := by
  simp only [Int32.toNatClampNeg]; omega
theorem own_n0 {z : Int32} {a : Nat} (hz : z.toInt = (a : Int)) : ¬ z < 0 := own_nn (a := a) (by omega) (by omega)
theorem own_j1 {a y : Int32} {n m : Nat} (ha : a.toInt = (n : Int)) (hy : y.toInt = (m : Int)) (h : 1 ≤ m) (hs : (n : Int) + m ≤ 1000) : (a + y - (1 : Int32)).toInt = a.toInt + ((m - 1 : Nat) : Int) := by
  have h1 := own_add ha hy (by omega) (by omega) hs
  have h2 := c_isub (a + y) 1
  have h3 : (1 : Int32).toInt = 1 := rfl
  have h4 := own_rng (a + y - (1 : Int32))
  omega
theorem own_j2 {a y : Int32} {n m : Nat} (ha : a.toInt = (n : Int)) (hy : y.toInt = (m : Int)) (hs : (n : Int) + m ≤ 1000) : (a + y / (2 : Int32)).toInt = a.toInt + ((m / 2 : Nat) : Int) := by
  have h1 := (c_idiv y 2 2 rfl (by decide)).1 (by omega)
  rw [own_add ha h1 (by omega) (by omega) (by omega), hy, ha]; omega
theorem own_gt {a y : Int32} {m : Nat} {j : Nat} (hy : y.toInt = (m : Int)) (h : a < y) (ha : a.toInt = (j : Int)) : j < m := by
  rw [Int32.lt_iff_toInt_lt] at h; omega
theorem own_p1 {z : Int32} {D : List Int32} {v : Int32} (h : z.toInt = ((D ++ [v]).length : Int)) : (0 : Int32) < z := by
  rw [Int32.lt_iff_toInt_lt, h]; have : (0 : Int32).toInt = 0 := rfl
  simp
theorem own_zl2 (zz : Int32) : ((zz + (1 : Int32)) + (1 : Int32)) = (zz + (2 : Int32)) := by simp only [Int32.add_assoc]; rfl
theorem own_dl2 (DD : List Int32) (v1 : Int32) : ((DD ++ [(((v1.toUInt32 >>> ((8 : Int32) &&& 31).toUInt32).toInt32).toInt8.toInt32)]) ++ [(v1.toInt8.toInt32)]) = (DD ++ own_l16 v1) := by
  simp only [own_l16, List.append_assoc, List.cons_append, List.nil_append]
theorem own_zl4 (zz : Int32) : ((((zz + (1 : Int32)) + (1 : Int32)) + (1 : Int32)) + (1 : Int32)) = (zz + (4 : Int32)) := by simp only [Int32.add_assoc]; rfl
theorem own_dl4 (DD : List Int32) (v1 : Int32) : ((((DD ++ [(((v1.toUInt32 >>> ((24 : Int32) &&& 31).toUInt32).toInt32).toInt8.toInt32)]) ++ [(((v1.toUInt32 >>> ((16 : Int32) &&& 31).toUInt32).toInt32).toInt8.toInt32)]) ++ [(((v1.toUInt32 >>> ((8 : Int32) &&& 31).toUInt32).toInt32).toInt8.toInt32)]) ++ [(((v1.toUInt32 >>> ((0 : Int32) &&& 31).toUInt32).toInt32).toInt8.toInt32)]) = (DD ++ own_l32 v1) := by
  simp only [own_l32, own_sh0, List.append_assoc, List.cons_append, List.nil_append]
theorem own_zl8 (zz : Int32) : ((((((((zz + (1 : Int32)) + (1 : Int32)) + (1 : Int32)) + (1 : Int32)) + (1 : Int32)) + (1 : Int32)) + (1 : Int32)) + (1 : Int32)) = (zz + (8 : Int32)) := by simp only [Int32.add_assoc]; rfl
theorem own_dl8 (DD : List Int32) (v1 : Int64) : ((((((((DD ++ [((((v1.toUInt64 >>> ((56 : Int32) &&& 0x3f).toInt64.toUInt64).toInt64).toInt32).toInt8.toInt32)]) ++ [((((v1.toUInt64 >>> ((48 : Int32) &&& 0x3f).toInt64.toUInt64).toInt64).toInt32).toInt8.toInt32)]) ++ [((((v1.toUInt64 >>> ((40 : Int32) &&& 0x3f).toInt64.toUInt64).toInt64).toInt32).toInt8.toInt32)]) ++ [((((v1.toUInt64 >>> ((32 : Int32) &&& 0x3f).toInt64.toUInt64).toInt64).toInt32).toInt8.toInt32)]) ++ [((((v1.toUInt64 >>> ((24 : Int32) &&& 0x3f).toInt64.toUInt64).toInt64).toInt32).toInt8.toInt32)]) ++ [((((v1.toUInt64 >>> ((16 : Int32) &&& 0x3f).toInt64.toUInt64).toInt64).toInt32).toInt8.toInt32)]) ++ [((((v1.toUInt64 >>> ((8 : Int32) &&& 0x3f).toInt64.toUInt64).toInt64).toInt32).toInt8.toInt32)]) ++ [((((v1.toUInt64 >>> ((0 : Int32) &&& 0x3f).toInt64.toUInt64).toInt64).toInt32).toInt8.toInt32)]) = (DD ++ own_l64 v1) := by
  simp only [own_l64, own_l32, own_q56, own_q48, own_q40, own_q32, own_q24, own_q16, own_q8, own_q0, List.append_assoc, List.cons_append, List.nil_append]
theorem own_d7_0 : decode prog_49_method_14_code 0 = .ok (.aload_n 0, 1) := by decide +kernel
theorem own_d7_1 : decode prog_49_method_14_code 1 = .ok (.getfield 17, 3) := by decide +kernel
theorem own_d7_4 : decode prog_49_method_14_code 4 = .ok (.iload_n 1, 1) := by decide +kernel
theorem own_d7_5 : decode prog_49_method_14_code 5 = .ok (.iadd, 1) := by decide +kernel
theorem own_d7_6 : decode prog_49_method_14_code 6 = .ok (.aload_n 0, 1) := by decide +kernel
theorem own_d7_7 : decode prog_49_method_14_code 7 = .ok (.getfield 7, 3) := by decide +kernel
theorem own_d7_10 : decode prog_49_method_14_code 10 = .ok (.arraylength, 1) := by decide +kernel
theorem own_d7_11 : decode prog_49_method_14_code 11 = .ok (.if_icmp .le 30, 3) := by decide +kernel
theorem own_d7_41 : decode prog_49_method_14_code 41 = .ok (.return_, 1) := by decide +kernel
theorem own_pn0 : plainName "com/example/vigilant_consumer/vigilantconsumer/ProtocolWriter" = true := by first | (simp [plainName, overriddenIn]; done) | decide +kernel
theorem own_ef7 (m : MethodId) (x0 : Addr) (x1 : Int32) : entryFrame m #[(.ref x0), (.int x1)] 2 = mkF m 0 #[.val (.ref x0), .val (.int x1)] [] := by first | (simp [entryFrame, mkF, argsToLocals, Value.category]; done) | rfl
def own_Q_own_ensN (Z : State) (wr : Addr) (n1 : Int32) (bf : Addr) (kb : ClassId) (cc : Int32) (zz : Int32) (DD : List Int32) (h0 : Heap) (n0 : Nat) (v : Option Value) (h : Heap) (L : List Loc) : Prop := v = none ∧ Fr n0 L ∧ h = h0
set_option maxRecDepth 65536 in
set_option maxHeartbeats 40000000 in
theorem own_ensN (l : Launch) (Z : State) (a0 : Array Value) (hw : ∀ d ∈ tables_1, d.before a0 Z = true) (ws : List Jvm.Cond) (wr : Addr) (n1 : Int32) (bf : Addr) (kb : ClassId) (cc : Int32) (zz : Int32) (DD : List Int32) (h0 : Heap) (n0 : Nat) (Z0 : n0 ≤ h0.size) (Fb : Fld Z h0 wr "com/example/vigilant_consumer/vigilantconsumer/ProtocolWriter" "bytes" "[B" (.ref bf)) (Fl : Fld Z h0 wr "com/example/vigilant_consumer/vigilantconsumer/ProtocolWriter" "length" "I" (.int zz)) (Vb : Arv Z h0 bf kb .byte cc (List.map Value.int DD) (.int (0 : Int32))) (hle : ¬ (cc < (zz + n1))) :
    MetFree l (⟨"com/example/vigilant_consumer/vigilantconsumer/ProtocolWriter", "ensure", "(I)V"⟩ : MethodName) (head1 (Jvm.Cond.code (⟨"com/example/vigilant_consumer/vigilantconsumer/ProtocolWriter", "ensure", "(I)V"⟩ : MethodName) prog_49_method_14_code 2 none :: ws) ({ frames := 0, cells := 0, slots := 0, locals := 0 } : Room)) (fun as_ U => as_ = #[(.ref wr), (.int n1)] ∧ Z.Warmed39 U.vm ∧ U.heap = h0) (fun _ _ _ _ _ => True) (fun _ U o U' => ∃ v L, o = .returned v ∧ own_Q_own_ensN Z wr n1 bf kb cc zz DD h0 n0 v U'.heap L ∧ FrameEnd U o U' L ({ frames := 0, cells := 0, slots := 0, locals := 0 } : Room).cells ({ frames := 0, cells := 0, slots := 0, locals := 0 } : Room).slots) := by
  refine MetFree.of_bodySF (plainFor_of_name own_pn0) hisR ?_
  intro p e s m args below meth c s₁ Bd hml0 hP hK
  obtain ⟨rfl, hZ, hh⟩ := hP
  have hx := Bd.exec
  have hby := Bd.bytes
  have hml : c.maxLocals = 2 := hml0
  have hown : s.vm.findClass "com/example/vigilant_consumer/vigilantconsumer/ProtocolWriter" = some m.cls := findClass_of_methodNamed Bd.named
  have hnm := (name_of_methodNamed Bd.named Bd.method).1
  have X0 : Stand p l e ({ frames := 0, cells := 0, slots := 0, locals := 0 } : Room) s m #[(.ref wr), (.int n1)] below meth c s₁ [] 0 0 := Stand.of_body Bd
  have e0 : s₁.heap = h0 := by rw [← hh, Bd.state]; rfl
  have N0 := Fr.nil n0
  have pre0 : ∀ t, Steps p.tables e below (s₁.setTop (mkF m 0 #[.val (.ref wr), .val (.int n1)] [])) t → Steps p.tables e below (s₁.setTop (entryFrame m #[(.ref wr), (.int n1)] 2)) t := fun t k => castTop (own_ef7 m wr n1) k
  obtain ⟨T1, X1, e1, st1⟩ := getF X0 hx hZ hown (host := "") (Or.inl (hw _ (List.mem_of_getElem? (i := 17) rfl))) Via.refl e0 Fl (g := (mkF m 1 #[.val (.ref wr), .val (.int n1)] [(.ref wr)])) rfl rfl (hb hby own_d7_1)
  obtain ⟨T2, X2, e2, st2⟩ := getF X1 hx hZ hown (host := "") (Or.inl (hw _ (List.mem_of_getElem? (i := 10) rfl))) Via.refl e1 Fb (g := (mkF m 7 #[.val (.ref wr), .val (.int n1)] [(.ref wr), (.int (zz + n1))])) rfl rfl (hb hby own_d7_7)
  obtain ⟨cl3, Ar3, q3, S3, M3, H3, G3⟩ := id Vb
  obtain ⟨fs, hr, hrun, hended, hW, hsame⟩ := X2.leave (v := none) (fun _ => rfl)
  refine ⟨_, _, pre0 _ ?_, hrun, hended, _, _, rfl, ?_, ⟨_, rfl⟩, hW, hsame.mono (by decide) (by decide)⟩
  · show Steps p.tables e below (s₁.setTop (mkF m 0 #[.val (.ref wr), .val (.int n1)] [])) _
    refine XS.aloadN X0.here hx rfl (hb hby own_d7_0) rfl rfl ?_
    show Steps p.tables e below (s₁.setTop (mkF m 1 #[.val (.ref wr), .val (.int n1)] [(.ref wr)])) _
    refine st1 _ ?_
    show Steps p.tables e below (T1.setTop (mkF m 4 #[.val (.ref wr), .val (.int n1)] [(.int zz)])) _
    refine XS.iloadN X1.here hx rfl (hb hby own_d7_4) rfl ?_
    show Steps p.tables e below (T1.setTop (mkF m 5 #[.val (.ref wr), .val (.int n1)] [(.int n1), (.int zz)])) _
    refine XS.iadd X1.here hx rfl (hb hby own_d7_5) rfl ?_
    show Steps p.tables e below (T1.setTop (mkF m 6 #[.val (.ref wr), .val (.int n1)] [(.int (zz + n1))])) _
    refine XS.aloadN X1.here hx rfl (hb hby own_d7_6) rfl rfl ?_
    show Steps p.tables e below (T1.setTop (mkF m 7 #[.val (.ref wr), .val (.int n1)] [(.ref wr), (.int (zz + n1))])) _
    refine st2 _ ?_
    show Steps p.tables e below (T2.setTop (mkF m 10 #[.val (.ref wr), .val (.int n1)] [(.ref bf), (.int (zz + n1))])) _
    refine X2.arraylength hx (by rw [e2]; exact Ar3.1) (State.isArrayOf_alike hZ.alike Ar3.2.1) (g := (mkF m 10 #[.val (.ref wr), .val (.int n1)] [(.ref bf), (.int (zz + n1))])) rfl rfl (hb hby own_d7_10) _ ?_
    rw [len_of S3 M3]
    show Steps p.tables e below (T2.setTop (mkF m 11 #[.val (.ref wr), .val (.int n1)] [(.int cc), (.int (zz + n1))])) _
    refine XS.icmpYes X2.here hx rfl (pc0 := 11) (pc' := 41) rfl (hb hby own_d7_11) rfl (flt (hle : ¬ (cc < (zz + n1)))).2.2.2 (by decide) (by decide) ?_
    show Steps p.tables e below (T2.setTop (mkF m 41 #[.val (.ref wr), .val (.int n1)] [])) _
    exact X2.returnOut hx Bd.returns (hb hby own_d7_41) hr
  · show own_Q_own_ensN Z wr n1 bf kb cc zz DD h0 n0 _ T2.heap _
    rw [e2]
    exact ⟨rfl, N0, rfl⟩
theorem own_pd0 : parseMethodDescriptor "(I)V" = some ⟨[.int], none⟩ := by decide +kernel
theorem own_d6_0 : decode prog_49_method_2_code 0 = .ok (.aload_n 0, 1) := by decide +kernel
theorem own_d6_1 : decode prog_49_method_2_code 1 = .ok (.iconst 1, 1) := by decide +kernel
theorem own_d6_2 : decode prog_49_method_2_code 2 = .ok (.invokevirtual 13, 3) := by decide +kernel
theorem own_d6_5 : decode prog_49_method_2_code 5 = .ok (.aload_n 0, 1) := by decide +kernel
theorem own_d6_6 : decode prog_49_method_2_code 6 = .ok (.getfield 7, 3) := by decide +kernel
theorem own_d6_9 : decode prog_49_method_2_code 9 = .ok (.aload_n 0, 1) := by decide +kernel
theorem own_d6_10 : decode prog_49_method_2_code 10 = .ok (.dup, 1) := by decide +kernel
theorem own_d6_11 : decode prog_49_method_2_code 11 = .ok (.getfield 17, 3) := by decide +kernel
theorem own_d6_14 : decode prog_49_method_2_code 14 = .ok (.dup_x1, 1) := by decide +kernel
theorem own_d6_15 : decode prog_49_method_2_code 15 = .ok (.iconst 1, 1) := by decide +kernel
theorem own_d6_16 : decode prog_49_method_2_code 16 = .ok (.iadd, 1) := by decide +kernel
theorem own_d6_17 : decode prog_49_method_2_code 17 = .ok (.putfield 17, 3) := by decide +kernel
theorem own_d6_20 : decode prog_49_method_2_code 20 = .ok (.iload_n 1, 1) := by decide +kernel
theorem own_d6_21 : decode prog_49_method_2_code 21 = .ok (.i2b, 1) := by decide +kernel
theorem own_d6_22 : decode prog_49_method_2_code 22 = .ok (.bastore, 1) := by decide +kernel
theorem own_d6_23 : decode prog_49_method_2_code 23 = .ok (.return_, 1) := by decide +kernel
theorem own_ef6 (m : MethodId) (x0 : Addr) (x1 : Int32) : entryFrame m #[(.ref x0), (.int x1)] 2 = mkF m 0 #[.val (.ref x0), .val (.int x1)] [] := by first | (simp [entryFrame, mkF, argsToLocals, Value.category]; done) | rfl
def own_Q_own_int8N (Z : State) (wr : Addr) (v1 : Int32) (bf : Addr) (kb : ClassId) (cc : Int32) (zz : Int32) (DD : List Int32) (h0 : Heap) (n0 : Nat) (v : Option Value) (h : Heap) (L : List Loc) : Prop := v = none ∧ Fr n0 L ∧ Keep h0 h [wr, bf] ∧ Fld Z h wr "com/example/vigilant_consumer/vigilantconsumer/ProtocolWriter" "bytes" "[B" (.ref bf) ∧ Fld Z h wr "com/example/vigilant_consumer/vigilantconsumer/ProtocolWriter" "length" "I" (.int (zz + (1 : Int32))) ∧ Arv Z h bf kb .byte cc (List.map Value.int (DD ++ [(v1.toInt8.toInt32)])) (.int (0 : Int32))
set_option maxRecDepth 65536 in
set_option maxHeartbeats 40000000 in
theorem own_int8N (l : Launch) (Z : State) (a0 : Array Value) (hw : ∀ d ∈ tables_1, d.before a0 Z = true) (ws : List Jvm.Cond) (wr : Addr) (v1 : Int32) (bf : Addr) (kb : ClassId) (cc : Int32) (zz : Int32) (DD : List Int32) (h0 : Heap) (n0 : Nat) (Z0 : n0 ≤ h0.size) (Ew : Exa Z h0 wr "com/example/vigilant_consumer/vigilantconsumer/ProtocolWriter") (Fb : Fld Z h0 wr "com/example/vigilant_consumer/vigilantconsumer/ProtocolWriter" "bytes" "[B" (.ref bf)) (Fl : Fld Z h0 wr "com/example/vigilant_consumer/vigilantconsumer/ProtocolWriter" "length" "I" (.int zz)) (Vb : Arv Z h0 bf kb .byte cc (List.map Value.int DD) (.int (0 : Int32))) (gw : n0 ≤ wr) (gb : n0 ≤ bf) (hz : zz.toInt = (DD.length : Int)) (hc : (DD.length : Int) + 1 ≤ cc.toInt) (hs : cc.toInt ≤ 128) :
    MetFree l (⟨"com/example/vigilant_consumer/vigilantconsumer/ProtocolWriter", "int8", "(I)V"⟩ : MethodName) (head1 (Jvm.Cond.code (⟨"com/example/vigilant_consumer/vigilantconsumer/ProtocolWriter", "int8", "(I)V"⟩ : MethodName) prog_49_method_2_code 2 none :: ws) ({ frames := 1, cells := 0, slots := 0, locals := 13 } : Room)) (fun as_ U => as_ = #[(.ref wr), (.int v1)] ∧ Z.Warmed39 U.vm ∧ U.heap = h0) (fun _ _ _ _ _ => True) (fun _ U o U' => ∃ v L, o = .returned v ∧ own_Q_own_int8N Z wr v1 bf kb cc zz DD h0 n0 v U'.heap L ∧ FrameEnd U o U' L ({ frames := 1, cells := 0, slots := 0, locals := 13 } : Room).cells ({ frames := 1, cells := 0, slots := 0, locals := 13 } : Room).slots) := by
  refine MetFree.of_bodySF (plainFor_of_name own_pn0) hisR ?_
  intro p e s m args below meth c s₁ Bd hml0 hP hK
  obtain ⟨rfl, hZ, hh⟩ := hP
  have hx := Bd.exec
  have hby := Bd.bytes
  have hml : c.maxLocals = 2 := hml0
  have hown : s.vm.findClass "com/example/vigilant_consumer/vigilantconsumer/ProtocolWriter" = some m.cls := findClass_of_methodNamed Bd.named
  have hnm := (name_of_methodNamed Bd.named Bd.method).1
  have X0 : Stand p l e ({ frames := 1, cells := 0, slots := 0, locals := 13 } : Room) s m #[(.ref wr), (.int v1)] below meth c s₁ [] 0 0 := Stand.of_body Bd
  have e0 : s₁.heap = h0 := by rw [← hh, Bd.state]; rfl
  have N0 := Fr.nil n0
  have pre0 : ∀ t, Steps p.tables e below (s₁.setTop (mkF m 0 #[.val (.ref wr), .val (.int v1)] [])) t → Steps p.tables e below (s₁.setTop (entryFrame m #[(.ref wr), (.int v1)] 2)) t := fun t k => castTop (own_ef6 m wr v1) k
  have KP := Keep.refl h0 ([wr, bf] : List Addr)
  obtain ⟨cq1, q1, q1'⟩ := Ew.cell
  obtain ⟨_, _, ⟨T1, L1, k1, n1⟩, -, X1, ⟨Lc1, hQ1, l1, y1, z1⟩, st1⟩ := X0.privateBack hx (y := (⟨"com/example/vigilant_consumer/vigilantconsumer/ProtocolWriter", "ensure", "(I)V"⟩ : MethodName)) hown (mvT hZ (hw _ (List.mem_of_getElem? (i := 36) rfl))) (mvT hZ (hw _ (List.mem_of_getElem? (i := 37) rfl))) (own_selP (mvT hZ (hw _ (List.mem_of_getElem? (i := 2) rfl))) (mvP hZ (hw _ (List.mem_of_getElem? (i := 38) rfl))) (mvT hZ (hw _ (List.mem_of_getElem? (i := 37) rfl))) (by decide)) (Cond.privateMethod_at (mvP hZ (hw _ (List.mem_of_getElem? (i := 38) rfl)) (args := #[]))) (mvT hZ (hw _ (List.mem_of_getElem? (i := 39) rfl))) (by decide) (backOf (W := 0) (own_ensN l Z a0 hw [] wr (1 : Int32) bf kb cc zz DD h0 n0 Z0 Fb Fl Vb (own_le hz (n := (1 : Int32)) (m := 1) rfl (by have q_ := hc; omega) (by have q_ := hs; omega))) hZ (hw _ (List.mem_of_getElem? (i := 39) rfl)) (hw _ (List.mem_of_getElem? (i := 3) rfl)) (by decide) (by decide)) (g := (mkF m 2 #[.val (.ref wr), .val (.int v1)] [(.int (1 : Int32)), (.ref wr)])) rfl (by rw [hml]; rfl) (Steps.refl _) (a := wr) (by rw [e0]; exact q1) q1' (argsL := [(.int (1 : Int32))]) (rest := []) (lenOf own_pd0 rfl) rfl (by show 2 * 0 + _ ≤ _; exact Nat.le_of_eq rfl) (hb hby own_d6_2) (fun _ _ => ⟨rfl, e0, (by decide : 0 + 0 ≤ _), (by decide : 0 + 0 ≤ _)⟩)
  dsimp only [Pt.U, Pt.locs, Pt.cells, Pt.slots] at X1 l1 y1 z1 st1 hQ1
  subst l1 y1 z1
  obtain ⟨rfl, N1q, e1⟩ := hQ1
  have N1 := Fr.app N0 N1q
  obtain ⟨T2, X2, e2, st2⟩ := getF X1 hx hZ hown (host := "") (Or.inl (hw _ (List.mem_of_getElem? (i := 10) rfl))) Via.refl e1 Fb (g := (mkF m 6 #[.val (.ref wr), .val (.int v1)] [(.ref wr)])) rfl rfl (hb hby own_d6_6)
  obtain ⟨T3, X3, e3, st3⟩ := getF X2 hx hZ hown (host := "") (Or.inl (hw _ (List.mem_of_getElem? (i := 17) rfl))) Via.refl e2 Fl (g := (mkF m 11 #[.val (.ref wr), .val (.int v1)] [(.ref wr), (.ref wr), (.ref bf)])) rfl rfl (hb hby own_d6_11)
  obtain ⟨T4, h4, X4, e4, W4, st4⟩ := putF X3 hx hZ hown (host := "") (Or.inl (hw _ (List.mem_of_getElem? (i := 17) rfl))) Via.refl e3 Fl Ew (Or.inl (hw _ (List.mem_of_getElem? (i := 18) rfl))) (hw _ (List.mem_of_getElem? (i := 2) rfl)) (ty := .int) (by decide) rfl rfl (g := (mkF m 17 #[.val (.ref wr), .val (.int v1)] [(.int (zz + (1 : Int32))), (.ref wr), (.int zz), (.ref bf)])) rfl rfl (hb hby own_d6_17)
  have ne_wr_bf : wr ≠ bf := Exa.neArv Ew Vb (hw _ (List.mem_of_getElem? (i := 2) rfl))
  have Ew := Ew.wr W4
  have Fb := Fb.other W4 (Or.inr (slot_ne (Or.inl (hw _ (List.mem_of_getElem? (i := 11) rfl))) (Or.inl (hw _ (List.mem_of_getElem? (i := 18) rfl))) (by decide) (t := (.array .byte)) (t' := .int) (by decide) (by decide)))
  have Vb := Vb.other W4 (Ne.symm ne_wr_bf)
  have Z5 : n0 ≤ h4.size := Nat.le_trans Z0 (Keep.of_wr W4).1
  have KP := KP.wr W4 (Or.inl (List.mem_of_getElem? (i := 0) rfl))
  have Fl := Fl.same W4
  have N4 := Fr.snoc X4 N1 gw
  obtain ⟨cl6, Ar6, q6, S6, M6, H6, G6⟩ := id Vb
  have hin6 : ¬ (zz < 0 ∨ cl6.slots.size ≤ (zz).toNatClampNeg) := inb_of S6 (own_ib hz (by have q_ := hc; (try simp only [List.length_append, List.length_cons, List.length_nil]); omega))
  obtain ⟨T7, h7, X7, e7, W7, st7⟩ := stB X4 hx hZ e4 Ar6 (j := zz) hin6 (g := (mkF m 22 #[.val (.ref wr), .val (.int v1)] [(.int (v1.toInt8.toInt32)), (.int zz), (.ref bf)])) rfl rfl (hb hby own_d6_22)
  have Ew := Ew.wr W7
  have Fb := Fb.other W7 (Or.inl ne_wr_bf)
  have Fl := Fl.other W7 (Or.inl ne_wr_bf)
  have Z8 : n0 ≤ h7.size := Nat.le_trans Z5 (Keep.of_wr W7).1
  have KP := KP.wr W7 (Or.inl (List.mem_of_getElem? (i := 1) rfl))
  have Vb : Arv Z h7 bf kb .byte cc (List.map Value.int (DD ++ [(v1.toInt8.toInt32)])) (.int (0 : Int32)) := own_push Ar6 q6 S6 M6 H6 G6 W7 (own_ni _) hz
  have hz7 : (zz + (1 : Int32)).toInt = ((DD ++ [(v1.toInt8.toInt32)]).length : Int) := own_hz1 hz (by have q_ := hc; have q2_ := hs; (try simp only [List.length_append, List.length_cons, List.length_nil]); omega)
  have N7 := Fr.snoc X7 N4 gb
  obtain ⟨fs, hr, hrun, hended, hW, hsame⟩ := X7.leave (v := none) (fun _ => rfl)
  refine ⟨_, _, pre0 _ ?_, hrun, hended, _, _, rfl, ?_, ⟨_, rfl⟩, hW, hsame.mono (by decide) (by decide)⟩
  · show Steps p.tables e below (s₁.setTop (mkF m 0 #[.val (.ref wr), .val (.int v1)] [])) _
    refine XS.aloadN X0.here hx rfl (hb hby own_d6_0) rfl rfl ?_
    show Steps p.tables e below (s₁.setTop (mkF m 1 #[.val (.ref wr), .val (.int v1)] [(.ref wr)])) _
    refine XS.iconst X0.here hx rfl (hb hby own_d6_1) ?_
    show Steps p.tables e below (s₁.setTop (mkF m 2 #[.val (.ref wr), .val (.int v1)] [(.int (1 : Int32)), (.ref wr)])) _
    refine st1.trans ?_
    show Steps p.tables e below (T1.setTop (mkF m 5 #[.val (.ref wr), .val (.int v1)] [])) _
    refine XS.aloadN X1.here hx rfl (hb hby own_d6_5) rfl rfl ?_
    show Steps p.tables e below (T1.setTop (mkF m 6 #[.val (.ref wr), .val (.int v1)] [(.ref wr)])) _
    refine st2 _ ?_
    show Steps p.tables e below (T2.setTop (mkF m 9 #[.val (.ref wr), .val (.int v1)] [(.ref bf)])) _
    refine XS.aloadN X2.here hx rfl (hb hby own_d6_9) rfl rfl ?_
    show Steps p.tables e below (T2.setTop (mkF m 10 #[.val (.ref wr), .val (.int v1)] [(.ref wr), (.ref bf)])) _
    refine XS.dup X2.here hx rfl (hb hby own_d6_10) rfl rfl ?_
    show Steps p.tables e below (T2.setTop (mkF m 11 #[.val (.ref wr), .val (.int v1)] [(.ref wr), (.ref wr), (.ref bf)])) _
    refine st3 _ ?_
    show Steps p.tables e below (T3.setTop (mkF m 14 #[.val (.ref wr), .val (.int v1)] [(.int zz), (.ref wr), (.ref bf)])) _
    refine XS.dupX1 X3.here hx rfl (hb hby own_d6_14) rfl rfl rfl ?_
    show Steps p.tables e below (T3.setTop (mkF m 15 #[.val (.ref wr), .val (.int v1)] [(.int zz), (.ref wr), (.int zz), (.ref bf)])) _
    refine XS.iconst X3.here hx rfl (hb hby own_d6_15) ?_
    show Steps p.tables e below (T3.setTop (mkF m 16 #[.val (.ref wr), .val (.int v1)] [(.int (1 : Int32)), (.int zz), (.ref wr), (.int zz), (.ref bf)])) _
    refine XS.iadd X3.here hx rfl (hb hby own_d6_16) rfl ?_
    show Steps p.tables e below (T3.setTop (mkF m 17 #[.val (.ref wr), .val (.int v1)] [(.int (zz + (1 : Int32))), (.ref wr), (.int zz), (.ref bf)])) _
    refine st4 _ ?_
    show Steps p.tables e below (T4.setTop (mkF m 20 #[.val (.ref wr), .val (.int v1)] [(.int zz), (.ref bf)])) _
    refine XS.iloadN X4.here hx rfl (hb hby own_d6_20) rfl ?_
    show Steps p.tables e below (T4.setTop (mkF m 21 #[.val (.ref wr), .val (.int v1)] [(.int v1), (.int zz), (.ref bf)])) _
    refine XS.i2b X4.here hx rfl (hb hby own_d6_21) rfl ?_
    show Steps p.tables e below (T4.setTop (mkF m 22 #[.val (.ref wr), .val (.int v1)] [(.int (v1.toInt8.toInt32)), (.int zz), (.ref bf)])) _
    refine st7 _ ?_
    show Steps p.tables e below (T7.setTop (mkF m 23 #[.val (.ref wr), .val (.int v1)] [])) _
    exact X7.returnOut hx Bd.returns (hb hby own_d6_23) hr
  · show own_Q_own_int8N Z wr v1 bf kb cc zz DD h0 n0 _ T7.heap _
    rw [e7]
    exact ⟨rfl, N7, KP, Fb, Fl, Vb⟩
theorem own_d8_0 : decode prog_49_method_3_code 0 = .ok (.aload_n 0, 1) := by decide +kernel
theorem own_d8_1 : decode prog_49_method_3_code 1 = .ok (.iconst 2, 1) := by decide +kernel
theorem own_d8_2 : decode prog_49_method_3_code 2 = .ok (.invokevirtual 13, 3) := by decide +kernel
theorem own_d8_5 : decode prog_49_method_3_code 5 = .ok (.aload_n 0, 1) := by decide +kernel
theorem own_d8_6 : decode prog_49_method_3_code 6 = .ok (.getfield 7, 3) := by decide +kernel
theorem own_d8_9 : decode prog_49_method_3_code 9 = .ok (.aload_n 0, 1) := by decide +kernel
theorem own_d8_10 : decode prog_49_method_3_code 10 = .ok (.dup, 1) := by decide +kernel
theorem own_d8_11 : decode prog_49_method_3_code 11 = .ok (.getfield 17, 3) := by decide +kernel
theorem own_d8_14 : decode prog_49_method_3_code 14 = .ok (.dup_x1, 1) := by decide +kernel
theorem own_d8_15 : decode prog_49_method_3_code 15 = .ok (.iconst 1, 1) := by decide +kernel
theorem own_d8_16 : decode prog_49_method_3_code 16 = .ok (.iadd, 1) := by decide +kernel
theorem own_d8_17 : decode prog_49_method_3_code 17 = .ok (.putfield 17, 3) := by decide +kernel
theorem own_d8_20 : decode prog_49_method_3_code 20 = .ok (.iload_n 1, 1) := by decide +kernel
theorem own_d8_21 : decode prog_49_method_3_code 21 = .ok (.bipush 8, 2) := by decide +kernel
theorem own_d8_23 : decode prog_49_method_3_code 23 = .ok (.iushr, 1) := by decide +kernel
theorem own_d8_24 : decode prog_49_method_3_code 24 = .ok (.i2b, 1) := by decide +kernel
theorem own_d8_25 : decode prog_49_method_3_code 25 = .ok (.bastore, 1) := by decide +kernel
theorem own_d8_26 : decode prog_49_method_3_code 26 = .ok (.aload_n 0, 1) := by decide +kernel
theorem own_d8_27 : decode prog_49_method_3_code 27 = .ok (.getfield 7, 3) := by decide +kernel
theorem own_d8_30 : decode prog_49_method_3_code 30 = .ok (.aload_n 0, 1) := by decide +kernel
theorem own_d8_31 : decode prog_49_method_3_code 31 = .ok (.dup, 1) := by decide +kernel
theorem own_d8_32 : decode prog_49_method_3_code 32 = .ok (.getfield 17, 3) := by decide +kernel
theorem own_d8_35 : decode prog_49_method_3_code 35 = .ok (.dup_x1, 1) := by decide +kernel
theorem own_d8_36 : decode prog_49_method_3_code 36 = .ok (.iconst 1, 1) := by decide +kernel
theorem own_d8_37 : decode prog_49_method_3_code 37 = .ok (.iadd, 1) := by decide +kernel
theorem own_d8_38 : decode prog_49_method_3_code 38 = .ok (.putfield 17, 3) := by decide +kernel
theorem own_d8_41 : decode prog_49_method_3_code 41 = .ok (.iload_n 1, 1) := by decide +kernel
theorem own_d8_42 : decode prog_49_method_3_code 42 = .ok (.i2b, 1) := by decide +kernel
theorem own_d8_43 : decode prog_49_method_3_code 43 = .ok (.bastore, 1) := by decide +kernel
theorem own_d8_44 : decode prog_49_method_3_code 44 = .ok (.return_, 1) := by decide +kernel
theorem own_ef8 (m : MethodId) (x0 : Addr) (x1 : Int32) : entryFrame m #[(.ref x0), (.int x1)] 2 = mkF m 0 #[.val (.ref x0), .val (.int x1)] [] := by first | (simp [entryFrame, mkF, argsToLocals, Value.category]; done) | rfl
def own_Q_own_int16N (Z : State) (wr : Addr) (v1 : Int32) (bf : Addr) (kb : ClassId) (cc : Int32) (zz : Int32) (DD : List Int32) (h0 : Heap) (n0 : Nat) (v : Option Value) (h : Heap) (L : List Loc) : Prop := v = none ∧ Fr n0 L ∧ Keep h0 h [wr, bf] ∧ Fld Z h wr "com/example/vigilant_consumer/vigilantconsumer/ProtocolWriter" "bytes" "[B" (.ref bf) ∧ Fld Z h wr "com/example/vigilant_consumer/vigilantconsumer/ProtocolWriter" "length" "I" (.int (zz + (2 : Int32))) ∧ Arv Z h bf kb .byte cc (List.map Value.int (DD ++ own_l16 v1)) (.int (0 : Int32))
set_option maxRecDepth 65536 in
set_option maxHeartbeats 40000000 in
theorem own_int16N (l : Launch) (Z : State) (a0 : Array Value) (hw : ∀ d ∈ tables_1, d.before a0 Z = true) (ws : List Jvm.Cond) (wr : Addr) (v1 : Int32) (bf : Addr) (kb : ClassId) (cc : Int32) (zz : Int32) (DD : List Int32) (h0 : Heap) (n0 : Nat) (Z0 : n0 ≤ h0.size) (Ew : Exa Z h0 wr "com/example/vigilant_consumer/vigilantconsumer/ProtocolWriter") (Fb : Fld Z h0 wr "com/example/vigilant_consumer/vigilantconsumer/ProtocolWriter" "bytes" "[B" (.ref bf)) (Fl : Fld Z h0 wr "com/example/vigilant_consumer/vigilantconsumer/ProtocolWriter" "length" "I" (.int zz)) (Vb : Arv Z h0 bf kb .byte cc (List.map Value.int DD) (.int (0 : Int32))) (gw : n0 ≤ wr) (gb : n0 ≤ bf) (hz : zz.toInt = (DD.length : Int)) (hc : (DD.length : Int) + 2 ≤ cc.toInt) (hs : cc.toInt ≤ 128) :
    MetFree l (⟨"com/example/vigilant_consumer/vigilantconsumer/ProtocolWriter", "int16", "(I)V"⟩ : MethodName) (head1 (Jvm.Cond.code (⟨"com/example/vigilant_consumer/vigilantconsumer/ProtocolWriter", "int16", "(I)V"⟩ : MethodName) prog_49_method_3_code 2 none :: ws) ({ frames := 1, cells := 0, slots := 0, locals := 13 } : Room)) (fun as_ U => as_ = #[(.ref wr), (.int v1)] ∧ Z.Warmed39 U.vm ∧ U.heap = h0) (fun _ _ _ _ _ => True) (fun _ U o U' => ∃ v L, o = .returned v ∧ own_Q_own_int16N Z wr v1 bf kb cc zz DD h0 n0 v U'.heap L ∧ FrameEnd U o U' L ({ frames := 1, cells := 0, slots := 0, locals := 13 } : Room).cells ({ frames := 1, cells := 0, slots := 0, locals := 13 } : Room).slots) := by
  refine MetFree.of_bodySF (plainFor_of_name own_pn0) hisR ?_
  intro p e s m args below meth c s₁ Bd hml0 hP hK
  obtain ⟨rfl, hZ, hh⟩ := hP
  have hx := Bd.exec
  have hby := Bd.bytes
  have hml : c.maxLocals = 2 := hml0
  have hown : s.vm.findClass "com/example/vigilant_consumer/vigilantconsumer/ProtocolWriter" = some m.cls := findClass_of_methodNamed Bd.named
  have hnm := (name_of_methodNamed Bd.named Bd.method).1
  have X0 : Stand p l e ({ frames := 1, cells := 0, slots := 0, locals := 13 } : Room) s m #[(.ref wr), (.int v1)] below meth c s₁ [] 0 0 := Stand.of_body Bd
  have e0 : s₁.heap = h0 := by rw [← hh, Bd.state]; rfl
  have N0 := Fr.nil n0
  have pre0 : ∀ t, Steps p.tables e below (s₁.setTop (mkF m 0 #[.val (.ref wr), .val (.int v1)] [])) t → Steps p.tables e below (s₁.setTop (entryFrame m #[(.ref wr), (.int v1)] 2)) t := fun t k => castTop (own_ef8 m wr v1) k
  have KP := Keep.refl h0 ([wr, bf] : List Addr)
  obtain ⟨cq1, q1, q1'⟩ := Ew.cell
  obtain ⟨_, _, ⟨T1, L1, k1, n1⟩, -, X1, ⟨Lc1, hQ1, l1, y1, z1⟩, st1⟩ := X0.privateBack hx (y := (⟨"com/example/vigilant_consumer/vigilantconsumer/ProtocolWriter", "ensure", "(I)V"⟩ : MethodName)) hown (mvT hZ (hw _ (List.mem_of_getElem? (i := 36) rfl))) (mvT hZ (hw _ (List.mem_of_getElem? (i := 37) rfl))) (own_selP (mvT hZ (hw _ (List.mem_of_getElem? (i := 2) rfl))) (mvP hZ (hw _ (List.mem_of_getElem? (i := 38) rfl))) (mvT hZ (hw _ (List.mem_of_getElem? (i := 37) rfl))) (by decide)) (Cond.privateMethod_at (mvP hZ (hw _ (List.mem_of_getElem? (i := 38) rfl)) (args := #[]))) (mvT hZ (hw _ (List.mem_of_getElem? (i := 39) rfl))) (by decide) (backOf (W := 0) (own_ensN l Z a0 hw [] wr (2 : Int32) bf kb cc zz DD h0 n0 Z0 Fb Fl Vb (own_le hz (n := (2 : Int32)) (m := 2) rfl (by have q_ := hc; omega) (by have q_ := hs; omega))) hZ (hw _ (List.mem_of_getElem? (i := 39) rfl)) (hw _ (List.mem_of_getElem? (i := 3) rfl)) (by decide) (by decide)) (g := (mkF m 2 #[.val (.ref wr), .val (.int v1)] [(.int (2 : Int32)), (.ref wr)])) rfl (by rw [hml]; rfl) (Steps.refl _) (a := wr) (by rw [e0]; exact q1) q1' (argsL := [(.int (2 : Int32))]) (rest := []) (lenOf own_pd0 rfl) rfl (by show 2 * 0 + _ ≤ _; exact Nat.le_of_eq rfl) (hb hby own_d8_2) (fun _ _ => ⟨rfl, e0, (by decide : 0 + 0 ≤ _), (by decide : 0 + 0 ≤ _)⟩)
  dsimp only [Pt.U, Pt.locs, Pt.cells, Pt.slots] at X1 l1 y1 z1 st1 hQ1
  subst l1 y1 z1
  obtain ⟨rfl, N1q, e1⟩ := hQ1
  have N1 := Fr.app N0 N1q
  obtain ⟨T2, X2, e2, st2⟩ := getF X1 hx hZ hown (host := "") (Or.inl (hw _ (List.mem_of_getElem? (i := 10) rfl))) Via.refl e1 Fb (g := (mkF m 6 #[.val (.ref wr), .val (.int v1)] [(.ref wr)])) rfl rfl (hb hby own_d8_6)
  obtain ⟨T3, X3, e3, st3⟩ := getF X2 hx hZ hown (host := "") (Or.inl (hw _ (List.mem_of_getElem? (i := 17) rfl))) Via.refl e2 Fl (g := (mkF m 11 #[.val (.ref wr), .val (.int v1)] [(.ref wr), (.ref wr), (.ref bf)])) rfl rfl (hb hby own_d8_11)
  obtain ⟨T4, h4, X4, e4, W4, st4⟩ := putF X3 hx hZ hown (host := "") (Or.inl (hw _ (List.mem_of_getElem? (i := 17) rfl))) Via.refl e3 Fl Ew (Or.inl (hw _ (List.mem_of_getElem? (i := 18) rfl))) (hw _ (List.mem_of_getElem? (i := 2) rfl)) (ty := .int) (by decide) rfl rfl (g := (mkF m 17 #[.val (.ref wr), .val (.int v1)] [(.int (zz + (1 : Int32))), (.ref wr), (.int zz), (.ref bf)])) rfl rfl (hb hby own_d8_17)
  have ne_wr_bf : wr ≠ bf := Exa.neArv Ew Vb (hw _ (List.mem_of_getElem? (i := 2) rfl))
  have Ew := Ew.wr W4
  have Fb := Fb.other W4 (Or.inr (slot_ne (Or.inl (hw _ (List.mem_of_getElem? (i := 11) rfl))) (Or.inl (hw _ (List.mem_of_getElem? (i := 18) rfl))) (by decide) (t := (.array .byte)) (t' := .int) (by decide) (by decide)))
  have Vb := Vb.other W4 (Ne.symm ne_wr_bf)
  have Z5 : n0 ≤ h4.size := Nat.le_trans Z0 (Keep.of_wr W4).1
  have KP := KP.wr W4 (Or.inl (List.mem_of_getElem? (i := 0) rfl))
  have Fl := Fl.same W4
  have N4 := Fr.snoc X4 N1 gw
  obtain ⟨cl6, Ar6, q6, S6, M6, H6, G6⟩ := id Vb
  have hin6 : ¬ (zz < 0 ∨ cl6.slots.size ≤ (zz).toNatClampNeg) := inb_of S6 (own_ib hz (by have q_ := hc; (try simp only [List.length_append, List.length_cons, List.length_nil]); omega))
  obtain ⟨T7, h7, X7, e7, W7, st7⟩ := stB X4 hx hZ e4 Ar6 (j := zz) hin6 (g := (mkF m 25 #[.val (.ref wr), .val (.int v1)] [(.int (((v1.toUInt32 >>> ((8 : Int32) &&& 31).toUInt32).toInt32).toInt8.toInt32)), (.int zz), (.ref bf)])) rfl rfl (hb hby own_d8_25)
  have Ew := Ew.wr W7
  have Fb := Fb.other W7 (Or.inl ne_wr_bf)
  have Fl := Fl.other W7 (Or.inl ne_wr_bf)
  have Z8 : n0 ≤ h7.size := Nat.le_trans Z5 (Keep.of_wr W7).1
  have KP := KP.wr W7 (Or.inl (List.mem_of_getElem? (i := 1) rfl))
  have Vb : Arv Z h7 bf kb .byte cc (List.map Value.int (DD ++ [(((v1.toUInt32 >>> ((8 : Int32) &&& 31).toUInt32).toInt32).toInt8.toInt32)])) (.int (0 : Int32)) := own_push Ar6 q6 S6 M6 H6 G6 W7 (own_ni _) hz
  have hz7 : (zz + (1 : Int32)).toInt = ((DD ++ [(((v1.toUInt32 >>> ((8 : Int32) &&& 31).toUInt32).toInt32).toInt8.toInt32)]).length : Int) := own_hz1 hz (by have q_ := hc; have q2_ := hs; (try simp only [List.length_append, List.length_cons, List.length_nil]); omega)
  have N7 := Fr.snoc X7 N4 gb
  have pre9 : ∀ t, Steps p.tables e below (T7.setTop (mkF m 26 #[.val (.ref wr), .val (.int v1)] [])) t → Steps p.tables e below (s₁.setTop (entryFrame m #[(.ref wr), (.int v1)] 2)) t := fun t k => pre0 t (by
    show Steps p.tables e below (s₁.setTop (mkF m 0 #[.val (.ref wr), .val (.int v1)] [])) _
    refine XS.aloadN X0.here hx rfl (hb hby own_d8_0) rfl rfl ?_
    show Steps p.tables e below (s₁.setTop (mkF m 1 #[.val (.ref wr), .val (.int v1)] [(.ref wr)])) _
    refine XS.iconst X0.here hx rfl (hb hby own_d8_1) ?_
    show Steps p.tables e below (s₁.setTop (mkF m 2 #[.val (.ref wr), .val (.int v1)] [(.int (2 : Int32)), (.ref wr)])) _
    refine st1.trans ?_
    show Steps p.tables e below (T1.setTop (mkF m 5 #[.val (.ref wr), .val (.int v1)] [])) _
    refine XS.aloadN X1.here hx rfl (hb hby own_d8_5) rfl rfl ?_
    show Steps p.tables e below (T1.setTop (mkF m 6 #[.val (.ref wr), .val (.int v1)] [(.ref wr)])) _
    refine st2 _ ?_
    show Steps p.tables e below (T2.setTop (mkF m 9 #[.val (.ref wr), .val (.int v1)] [(.ref bf)])) _
    refine XS.aloadN X2.here hx rfl (hb hby own_d8_9) rfl rfl ?_
    show Steps p.tables e below (T2.setTop (mkF m 10 #[.val (.ref wr), .val (.int v1)] [(.ref wr), (.ref bf)])) _
    refine XS.dup X2.here hx rfl (hb hby own_d8_10) rfl rfl ?_
    show Steps p.tables e below (T2.setTop (mkF m 11 #[.val (.ref wr), .val (.int v1)] [(.ref wr), (.ref wr), (.ref bf)])) _
    refine st3 _ ?_
    show Steps p.tables e below (T3.setTop (mkF m 14 #[.val (.ref wr), .val (.int v1)] [(.int zz), (.ref wr), (.ref bf)])) _
    refine XS.dupX1 X3.here hx rfl (hb hby own_d8_14) rfl rfl rfl ?_
    show Steps p.tables e below (T3.setTop (mkF m 15 #[.val (.ref wr), .val (.int v1)] [(.int zz), (.ref wr), (.int zz), (.ref bf)])) _
    refine XS.iconst X3.here hx rfl (hb hby own_d8_15) ?_
    show Steps p.tables e below (T3.setTop (mkF m 16 #[.val (.ref wr), .val (.int v1)] [(.int (1 : Int32)), (.int zz), (.ref wr), (.int zz), (.ref bf)])) _
    refine XS.iadd X3.here hx rfl (hb hby own_d8_16) rfl ?_
    show Steps p.tables e below (T3.setTop (mkF m 17 #[.val (.ref wr), .val (.int v1)] [(.int (zz + (1 : Int32))), (.ref wr), (.int zz), (.ref bf)])) _
    refine st4 _ ?_
    show Steps p.tables e below (T4.setTop (mkF m 20 #[.val (.ref wr), .val (.int v1)] [(.int zz), (.ref bf)])) _
    refine XS.iloadN X4.here hx rfl (hb hby own_d8_20) rfl ?_
    show Steps p.tables e below (T4.setTop (mkF m 21 #[.val (.ref wr), .val (.int v1)] [(.int v1), (.int zz), (.ref bf)])) _
    refine XS.bipush X4.here hx rfl (hb hby own_d8_21) ?_
    show Steps p.tables e below (T4.setTop (mkF m 23 #[.val (.ref wr), .val (.int v1)] [(.int (8 : Int32)), (.int v1), (.int zz), (.ref bf)])) _
    refine XS.iushr X4.here hx rfl (hb hby own_d8_23) rfl ?_
    show Steps p.tables e below (T4.setTop (mkF m 24 #[.val (.ref wr), .val (.int v1)] [(.int ((v1.toUInt32 >>> ((8 : Int32) &&& 31).toUInt32).toInt32)), (.int zz), (.ref bf)])) _
    refine XS.i2b X4.here hx rfl (hb hby own_d8_24) rfl ?_
    show Steps p.tables e below (T4.setTop (mkF m 25 #[.val (.ref wr), .val (.int v1)] [(.int (((v1.toUInt32 >>> ((8 : Int32) &&& 31).toUInt32).toInt32).toInt8.toInt32)), (.int zz), (.ref bf)])) _
    refine st7 _ ?_
    exact k)
  obtain ⟨LL10, X10, N10⟩ : ∃ L, Stand p l e ({ frames := 1, cells := 0, slots := 0, locals := 13 } : Room) s m #[(.ref wr), (.int v1)] below meth c T7 L 0 0 ∧ Fr n0 L := ⟨_, X7, N7⟩
  as_aux_lemma =>
    obtain ⟨T11, X11, e11, st11⟩ := getF X10 hx hZ hown (host := "") (Or.inl (hw _ (List.mem_of_getElem? (i := 10) rfl))) Via.refl e7 Fb (g := (mkF m 27 #[.val (.ref wr), .val (.int v1)] [(.ref wr)])) rfl rfl (hb hby own_d8_27)
    obtain ⟨T12, X12, e12, st12⟩ := getF X11 hx hZ hown (host := "") (Or.inl (hw _ (List.mem_of_getElem? (i := 17) rfl))) Via.refl e11 Fl (g := (mkF m 32 #[.val (.ref wr), .val (.int v1)] [(.ref wr), (.ref wr), (.ref bf)])) rfl rfl (hb hby own_d8_32)
    obtain ⟨T13, h13, X13, e13, W13, st13⟩ := putF X12 hx hZ hown (host := "") (Or.inl (hw _ (List.mem_of_getElem? (i := 17) rfl))) Via.refl e12 Fl Ew (Or.inl (hw _ (List.mem_of_getElem? (i := 18) rfl))) (hw _ (List.mem_of_getElem? (i := 2) rfl)) (ty := .int) (by decide) rfl rfl (g := (mkF m 38 #[.val (.ref wr), .val (.int v1)] [(.int ((zz + (1 : Int32)) + (1 : Int32))), (.ref wr), (.int (zz + (1 : Int32))), (.ref bf)])) rfl rfl (hb hby own_d8_38)
    have Ew := Ew.wr W13
    have Fb := Fb.other W13 (Or.inr (slot_ne (Or.inl (hw _ (List.mem_of_getElem? (i := 11) rfl))) (Or.inl (hw _ (List.mem_of_getElem? (i := 18) rfl))) (by decide) (t := (.array .byte)) (t' := .int) (by decide) (by decide)))
    have Vb := Vb.other W13 (Ne.symm ne_wr_bf)
    have Z14 : n0 ≤ h13.size := Nat.le_trans Z8 (Keep.of_wr W13).1
    have KP := KP.wr W13 (Or.inl (List.mem_of_getElem? (i := 0) rfl))
    have Fl := Fl.same W13
    have N13 := Fr.snoc X13 N10 gw
    obtain ⟨cl15, Ar15, q15, S15, M15, H15, G15⟩ := id Vb
    have hin15 : ¬ ((zz + (1 : Int32)) < 0 ∨ cl15.slots.size ≤ ((zz + (1 : Int32))).toNatClampNeg) := inb_of S15 (own_ib hz7 (by have q_ := hc; (try simp only [List.length_append, List.length_cons, List.length_nil]); omega))
    obtain ⟨T16, h16, X16, e16, W16, st16⟩ := stB X13 hx hZ e13 Ar15 (j := (zz + (1 : Int32))) hin15 (g := (mkF m 43 #[.val (.ref wr), .val (.int v1)] [(.int (v1.toInt8.toInt32)), (.int (zz + (1 : Int32))), (.ref bf)])) rfl rfl (hb hby own_d8_43)
    have Ew := Ew.wr W16
    have Fb := Fb.other W16 (Or.inl ne_wr_bf)
    have Fl := Fl.other W16 (Or.inl ne_wr_bf)
    have Z17 : n0 ≤ h16.size := Nat.le_trans Z14 (Keep.of_wr W16).1
    have KP := KP.wr W16 (Or.inl (List.mem_of_getElem? (i := 1) rfl))
    have Vb : Arv Z h16 bf kb .byte cc (List.map Value.int ((DD ++ [(((v1.toUInt32 >>> ((8 : Int32) &&& 31).toUInt32).toInt32).toInt8.toInt32)]) ++ [(v1.toInt8.toInt32)])) (.int (0 : Int32)) := own_push Ar15 q15 S15 M15 H15 G15 W16 (own_ni _) hz7
    have hz16 : ((zz + (1 : Int32)) + (1 : Int32)).toInt = (((DD ++ [(((v1.toUInt32 >>> ((8 : Int32) &&& 31).toUInt32).toInt32).toInt8.toInt32)]) ++ [(v1.toInt8.toInt32)]).length : Int) := own_hz1 hz7 (by have q_ := hc; have q2_ := hs; (try simp only [List.length_append, List.length_cons, List.length_nil]); omega)
    have N16 := Fr.snoc X16 N13 gb
    obtain ⟨fs, hr, hrun, hended, hW, hsame⟩ := X16.leave (v := none) (fun _ => rfl)
    refine ⟨_, _, pre9 _ ?_, hrun, hended, _, _, rfl, ?_, ⟨_, rfl⟩, hW, hsame.mono (by decide) (by decide)⟩
    · show Steps p.tables e below (T7.setTop (mkF m 26 #[.val (.ref wr), .val (.int v1)] [])) _
      refine XS.aloadN X10.here hx rfl (hb hby own_d8_26) rfl rfl ?_
      show Steps p.tables e below (T7.setTop (mkF m 27 #[.val (.ref wr), .val (.int v1)] [(.ref wr)])) _
      refine st11 _ ?_
      show Steps p.tables e below (T11.setTop (mkF m 30 #[.val (.ref wr), .val (.int v1)] [(.ref bf)])) _
      refine XS.aloadN X11.here hx rfl (hb hby own_d8_30) rfl rfl ?_
      show Steps p.tables e below (T11.setTop (mkF m 31 #[.val (.ref wr), .val (.int v1)] [(.ref wr), (.ref bf)])) _
      refine XS.dup X11.here hx rfl (hb hby own_d8_31) rfl rfl ?_
      show Steps p.tables e below (T11.setTop (mkF m 32 #[.val (.ref wr), .val (.int v1)] [(.ref wr), (.ref wr), (.ref bf)])) _
      refine st12 _ ?_
      show Steps p.tables e below (T12.setTop (mkF m 35 #[.val (.ref wr), .val (.int v1)] [(.int (zz + (1 : Int32))), (.ref wr), (.ref bf)])) _
      refine XS.dupX1 X12.here hx rfl (hb hby own_d8_35) rfl rfl rfl ?_
      show Steps p.tables e below (T12.setTop (mkF m 36 #[.val (.ref wr), .val (.int v1)] [(.int (zz + (1 : Int32))), (.ref wr), (.int (zz + (1 : Int32))), (.ref bf)])) _
      refine XS.iconst X12.here hx rfl (hb hby own_d8_36) ?_
      show Steps p.tables e below (T12.setTop (mkF m 37 #[.val (.ref wr), .val (.int v1)] [(.int (1 : Int32)), (.int (zz + (1 : Int32))), (.ref wr), (.int (zz + (1 : Int32))), (.ref bf)])) _
      refine XS.iadd X12.here hx rfl (hb hby own_d8_37) rfl ?_
      show Steps p.tables e below (T12.setTop (mkF m 38 #[.val (.ref wr), .val (.int v1)] [(.int ((zz + (1 : Int32)) + (1 : Int32))), (.ref wr), (.int (zz + (1 : Int32))), (.ref bf)])) _
      refine st13 _ ?_
      show Steps p.tables e below (T13.setTop (mkF m 41 #[.val (.ref wr), .val (.int v1)] [(.int (zz + (1 : Int32))), (.ref bf)])) _
      refine XS.iloadN X13.here hx rfl (hb hby own_d8_41) rfl ?_
      show Steps p.tables e below (T13.setTop (mkF m 42 #[.val (.ref wr), .val (.int v1)] [(.int v1), (.int (zz + (1 : Int32))), (.ref bf)])) _
      refine XS.i2b X13.here hx rfl (hb hby own_d8_42) rfl ?_
      show Steps p.tables e below (T13.setTop (mkF m 43 #[.val (.ref wr), .val (.int v1)] [(.int (v1.toInt8.toInt32)), (.int (zz + (1 : Int32))), (.ref bf)])) _
      refine st16 _ ?_
      show Steps p.tables e below (T16.setTop (mkF m 44 #[.val (.ref wr), .val (.int v1)] [])) _
      exact X16.returnOut hx Bd.returns (hb hby own_d8_44) hr
    · show own_Q_own_int16N Z wr v1 bf kb cc zz DD h0 n0 _ T16.heap _
      rw [e16]
      exact ⟨rfl, N16, KP, Fb, (own_zl2 zz) ▸ Fl, (own_dl2 DD v1) ▸ Vb⟩
theorem own_d9_0 : decode prog_49_method_4_code 0 = .ok (.aload_n 0, 1) := by decide +kernel
theorem own_d9_1 : decode prog_49_method_4_code 1 = .ok (.iconst 4, 1) := by decide +kernel
theorem own_d9_2 : decode prog_49_method_4_code 2 = .ok (.invokevirtual 13, 3) := by decide +kernel
theorem own_d9_5 : decode prog_49_method_4_code 5 = .ok (.bipush 24, 2) := by decide +kernel
theorem own_d9_7 : decode prog_49_method_4_code 7 = .ok (.istore_n 2, 1) := by decide +kernel
theorem own_d9_8 : decode prog_49_method_4_code 8 = .ok (.iload_n 2, 1) := by decide +kernel
theorem own_d9_9 : decode prog_49_method_4_code 9 = .ok (.ifCond .lt 29, 3) := by decide +kernel
theorem own_d9_12 : decode prog_49_method_4_code 12 = .ok (.aload_n 0, 1) := by decide +kernel
theorem own_d9_13 : decode prog_49_method_4_code 13 = .ok (.getfield 7, 3) := by decide +kernel
theorem own_d9_16 : decode prog_49_method_4_code 16 = .ok (.aload_n 0, 1) := by decide +kernel
theorem own_d9_17 : decode prog_49_method_4_code 17 = .ok (.dup, 1) := by decide +kernel
theorem own_d9_18 : decode prog_49_method_4_code 18 = .ok (.getfield 17, 3) := by decide +kernel
theorem own_d9_21 : decode prog_49_method_4_code 21 = .ok (.dup_x1, 1) := by decide +kernel
theorem own_d9_22 : decode prog_49_method_4_code 22 = .ok (.iconst 1, 1) := by decide +kernel
theorem own_d9_23 : decode prog_49_method_4_code 23 = .ok (.iadd, 1) := by decide +kernel
theorem own_d9_24 : decode prog_49_method_4_code 24 = .ok (.putfield 17, 3) := by decide +kernel
theorem own_d9_27 : decode prog_49_method_4_code 27 = .ok (.iload_n 1, 1) := by decide +kernel
theorem own_d9_28 : decode prog_49_method_4_code 28 = .ok (.iload_n 2, 1) := by decide +kernel
theorem own_d9_29 : decode prog_49_method_4_code 29 = .ok (.iushr, 1) := by decide +kernel
theorem own_d9_30 : decode prog_49_method_4_code 30 = .ok (.i2b, 1) := by decide +kernel
theorem own_d9_31 : decode prog_49_method_4_code 31 = .ok (.bastore, 1) := by decide +kernel
theorem own_d9_32 : decode prog_49_method_4_code 32 = .ok (.iinc 2 (-8), 3) := by decide +kernel
theorem own_d9_35 : decode prog_49_method_4_code 35 = .ok (.goto (-27), 3) := by decide +kernel
theorem own_d9_38 : decode prog_49_method_4_code 38 = .ok (.return_, 1) := by decide +kernel
theorem own_ef9 (m : MethodId) (x0 : Addr) (x1 : Int32) : entryFrame m #[(.ref x0), (.int x1)] 3 = mkF m 0 #[.val (.ref x0), .val (.int x1), .unset] [] := by first | (simp [entryFrame, mkF, argsToLocals, Value.category]; done) | rfl
def own_Q_own_int32N (Z : State) (wr : Addr) (v1 : Int32) (bf : Addr) (kb : ClassId) (cc : Int32) (zz : Int32) (DD : List Int32) (h0 : Heap) (n0 : Nat) (v : Option Value) (h : Heap) (L : List Loc) : Prop := v = none ∧ Fr n0 L ∧ Keep h0 h [wr, bf] ∧ Fld Z h wr "com/example/vigilant_consumer/vigilantconsumer/ProtocolWriter" "bytes" "[B" (.ref bf) ∧ Fld Z h wr "com/example/vigilant_consumer/vigilantconsumer/ProtocolWriter" "length" "I" (.int (zz + (4 : Int32))) ∧ Arv Z h bf kb .byte cc (List.map Value.int (DD ++ own_l32 v1)) (.int (0 : Int32))
set_option maxRecDepth 65536 in
set_option maxHeartbeats 40000000 in
theorem own_int32N (l : Launch) (Z : State) (a0 : Array Value) (hw : ∀ d ∈ tables_1, d.before a0 Z = true) (ws : List Jvm.Cond) (wr : Addr) (v1 : Int32) (bf : Addr) (kb : ClassId) (cc : Int32) (zz : Int32) (DD : List Int32) (h0 : Heap) (n0 : Nat) (Z0 : n0 ≤ h0.size) (Ew : Exa Z h0 wr "com/example/vigilant_consumer/vigilantconsumer/ProtocolWriter") (Fb : Fld Z h0 wr "com/example/vigilant_consumer/vigilantconsumer/ProtocolWriter" "bytes" "[B" (.ref bf)) (Fl : Fld Z h0 wr "com/example/vigilant_consumer/vigilantconsumer/ProtocolWriter" "length" "I" (.int zz)) (Vb : Arv Z h0 bf kb .byte cc (List.map Value.int DD) (.int (0 : Int32))) (gw : n0 ≤ wr) (gb : n0 ≤ bf) (hz : zz.toInt = (DD.length : Int)) (hc : (DD.length : Int) + 4 ≤ cc.toInt) (hs : cc.toInt ≤ 128) :
    MetFree l (⟨"com/example/vigilant_consumer/vigilantconsumer/ProtocolWriter", "int32", "(I)V"⟩ : MethodName) (head1 (Jvm.Cond.code (⟨"com/example/vigilant_consumer/vigilantconsumer/ProtocolWriter", "int32", "(I)V"⟩ : MethodName) prog_49_method_4_code 3 none :: ws) ({ frames := 1, cells := 0, slots := 0, locals := 13 } : Room)) (fun as_ U => as_ = #[(.ref wr), (.int v1)] ∧ Z.Warmed39 U.vm ∧ U.heap = h0) (fun _ _ _ _ _ => True) (fun _ U o U' => ∃ v L, o = .returned v ∧ own_Q_own_int32N Z wr v1 bf kb cc zz DD h0 n0 v U'.heap L ∧ FrameEnd U o U' L ({ frames := 1, cells := 0, slots := 0, locals := 13 } : Room).cells ({ frames := 1, cells := 0, slots := 0, locals := 13 } : Room).slots) := by
  refine MetFree.of_bodySF (plainFor_of_name own_pn0) hisR ?_
  intro p e s m args below meth c s₁ Bd hml0 hP hK
  obtain ⟨rfl, hZ, hh⟩ := hP
  have hx := Bd.exec
  have hby := Bd.bytes
  have hml : c.maxLocals = 3 := hml0
  have hown : s.vm.findClass "com/example/vigilant_consumer/vigilantconsumer/ProtocolWriter" = some m.cls := findClass_of_methodNamed Bd.named
  have hnm := (name_of_methodNamed Bd.named Bd.method).1
  have X0 : Stand p l e ({ frames := 1, cells := 0, slots := 0, locals := 13 } : Room) s m #[(.ref wr), (.int v1)] below meth c s₁ [] 0 0 := Stand.of_body Bd
  have e0 : s₁.heap = h0 := by rw [← hh, Bd.state]; rfl
  have N0 := Fr.nil n0
  have pre0 : ∀ t, Steps p.tables e below (s₁.setTop (mkF m 0 #[.val (.ref wr), .val (.int v1), .unset] [])) t → Steps p.tables e below (s₁.setTop (entryFrame m #[(.ref wr), (.int v1)] 3)) t := fun t k => castTop (own_ef9 m wr v1) k
  have KP := Keep.refl h0 ([wr, bf] : List Addr)
  obtain ⟨cq1, q1, q1'⟩ := Ew.cell
  obtain ⟨_, _, ⟨T1, L1, k1, n1⟩, -, X1, ⟨Lc1, hQ1, l1, y1, z1⟩, st1⟩ := X0.privateBack hx (y := (⟨"com/example/vigilant_consumer/vigilantconsumer/ProtocolWriter", "ensure", "(I)V"⟩ : MethodName)) hown (mvT hZ (hw _ (List.mem_of_getElem? (i := 36) rfl))) (mvT hZ (hw _ (List.mem_of_getElem? (i := 37) rfl))) (own_selP (mvT hZ (hw _ (List.mem_of_getElem? (i := 2) rfl))) (mvP hZ (hw _ (List.mem_of_getElem? (i := 38) rfl))) (mvT hZ (hw _ (List.mem_of_getElem? (i := 37) rfl))) (by decide)) (Cond.privateMethod_at (mvP hZ (hw _ (List.mem_of_getElem? (i := 38) rfl)) (args := #[]))) (mvT hZ (hw _ (List.mem_of_getElem? (i := 39) rfl))) (by decide) (backOf (W := 0) (own_ensN l Z a0 hw [] wr (4 : Int32) bf kb cc zz DD h0 n0 Z0 Fb Fl Vb (own_le hz (n := (4 : Int32)) (m := 4) rfl (by have q_ := hc; omega) (by have q_ := hs; omega))) hZ (hw _ (List.mem_of_getElem? (i := 39) rfl)) (hw _ (List.mem_of_getElem? (i := 3) rfl)) (by decide) (by decide)) (g := (mkF m 2 #[.val (.ref wr), .val (.int v1), .unset] [(.int (4 : Int32)), (.ref wr)])) rfl (by rw [hml]; rfl) (Steps.refl _) (a := wr) (by rw [e0]; exact q1) q1' (argsL := [(.int (4 : Int32))]) (rest := []) (lenOf own_pd0 rfl) rfl (by show 2 * 0 + _ ≤ _; exact Nat.le_of_eq rfl) (hb hby own_d9_2) (fun _ _ => ⟨rfl, e0, (by decide : 0 + 0 ≤ _), (by decide : 0 + 0 ≤ _)⟩)
  dsimp only [Pt.U, Pt.locs, Pt.cells, Pt.slots] at X1 l1 y1 z1 st1 hQ1
  subst l1 y1 z1
  obtain ⟨rfl, N1q, e1⟩ := hQ1
  have N1 := Fr.app N0 N1q
  have pre2 : ∀ t, Steps p.tables e below (T1.setTop (mkF m 8 #[.val (.ref wr), .val (.int v1), .val (.int (24 : Int32))] [])) t → Steps p.tables e below (s₁.setTop (entryFrame m #[(.ref wr), (.int v1)] 3)) t := fun t k => pre0 t (by
    show Steps p.tables e below (s₁.setTop (mkF m 0 #[.val (.ref wr), .val (.int v1), .unset] [])) _
    refine XS.aloadN X0.here hx rfl (hb hby own_d9_0) rfl rfl ?_
    show Steps p.tables e below (s₁.setTop (mkF m 1 #[.val (.ref wr), .val (.int v1), .unset] [(.ref wr)])) _
    refine XS.iconst X0.here hx rfl (hb hby own_d9_1) ?_
    show Steps p.tables e below (s₁.setTop (mkF m 2 #[.val (.ref wr), .val (.int v1), .unset] [(.int (4 : Int32)), (.ref wr)])) _
    refine st1.trans ?_
    show Steps p.tables e below (T1.setTop (mkF m 5 #[.val (.ref wr), .val (.int v1), .unset] [])) _
    refine XS.bipush X1.here hx rfl (hb hby own_d9_5) ?_
    show Steps p.tables e below (T1.setTop (mkF m 7 #[.val (.ref wr), .val (.int v1), .unset] [(.int (24 : Int32))])) _
    refine XS.istoreN X1.here hx rfl (hb hby own_d9_7) rfl (l' := #[.val (.ref wr), .val (.int v1), .val (.int (24 : Int32))]) rfl ?_
    exact k)
  obtain ⟨LL3, X3, N3⟩ : ∃ L, Stand p l e ({ frames := 1, cells := 0, slots := 0, locals := 13 } : Room) s m #[(.ref wr), (.int v1)] below meth c T1 L 0 0 ∧ Fr n0 L := ⟨_, X1, N1⟩
  as_aux_lemma =>
    obtain ⟨T4, X4, e4, st4⟩ := getF X3 hx hZ hown (host := "") (Or.inl (hw _ (List.mem_of_getElem? (i := 10) rfl))) Via.refl e1 Fb (g := (mkF m 13 #[.val (.ref wr), .val (.int v1), .val (.int (24 : Int32))] [(.ref wr)])) rfl rfl (hb hby own_d9_13)
    obtain ⟨T5, X5, e5, st5⟩ := getF X4 hx hZ hown (host := "") (Or.inl (hw _ (List.mem_of_getElem? (i := 17) rfl))) Via.refl e4 Fl (g := (mkF m 18 #[.val (.ref wr), .val (.int v1), .val (.int (24 : Int32))] [(.ref wr), (.ref wr), (.ref bf)])) rfl rfl (hb hby own_d9_18)
    obtain ⟨T6, h6, X6, e6, W6, st6⟩ := putF X5 hx hZ hown (host := "") (Or.inl (hw _ (List.mem_of_getElem? (i := 17) rfl))) Via.refl e5 Fl Ew (Or.inl (hw _ (List.mem_of_getElem? (i := 18) rfl))) (hw _ (List.mem_of_getElem? (i := 2) rfl)) (ty := .int) (by decide) rfl rfl (g := (mkF m 24 #[.val (.ref wr), .val (.int v1), .val (.int (24 : Int32))] [(.int (zz + (1 : Int32))), (.ref wr), (.int zz), (.ref bf)])) rfl rfl (hb hby own_d9_24)
    have ne_wr_bf : wr ≠ bf := Exa.neArv Ew Vb (hw _ (List.mem_of_getElem? (i := 2) rfl))
    have Ew := Ew.wr W6
    have Fb := Fb.other W6 (Or.inr (slot_ne (Or.inl (hw _ (List.mem_of_getElem? (i := 11) rfl))) (Or.inl (hw _ (List.mem_of_getElem? (i := 18) rfl))) (by decide) (t := (.array .byte)) (t' := .int) (by decide) (by decide)))
    have Vb := Vb.other W6 (Ne.symm ne_wr_bf)
    have Z7 : n0 ≤ h6.size := Nat.le_trans Z0 (Keep.of_wr W6).1
    have KP := KP.wr W6 (Or.inl (List.mem_of_getElem? (i := 0) rfl))
    have Fl := Fl.same W6
    have N6 := Fr.snoc X6 N3 gw
    obtain ⟨cl8, Ar8, q8, S8, M8, H8, G8⟩ := id Vb
    have hin8 : ¬ (zz < 0 ∨ cl8.slots.size ≤ (zz).toNatClampNeg) := inb_of S8 (own_ib hz (by have q_ := hc; (try simp only [List.length_append, List.length_cons, List.length_nil]); omega))
    obtain ⟨T9, h9, X9, e9, W9, st9⟩ := stB X6 hx hZ e6 Ar8 (j := zz) hin8 (g := (mkF m 31 #[.val (.ref wr), .val (.int v1), .val (.int (24 : Int32))] [(.int (((v1.toUInt32 >>> ((24 : Int32) &&& 31).toUInt32).toInt32).toInt8.toInt32)), (.int zz), (.ref bf)])) rfl rfl (hb hby own_d9_31)
    have Ew := Ew.wr W9
    have Fb := Fb.other W9 (Or.inl ne_wr_bf)
    have Fl := Fl.other W9 (Or.inl ne_wr_bf)
    have Z10 : n0 ≤ h9.size := Nat.le_trans Z7 (Keep.of_wr W9).1
    have KP := KP.wr W9 (Or.inl (List.mem_of_getElem? (i := 1) rfl))
    have Vb : Arv Z h9 bf kb .byte cc (List.map Value.int (DD ++ [(((v1.toUInt32 >>> ((24 : Int32) &&& 31).toUInt32).toInt32).toInt8.toInt32)])) (.int (0 : Int32)) := own_push Ar8 q8 S8 M8 H8 G8 W9 (own_ni _) hz
    have hz9 : (zz + (1 : Int32)).toInt = ((DD ++ [(((v1.toUInt32 >>> ((24 : Int32) &&& 31).toUInt32).toInt32).toInt8.toInt32)]).length : Int) := own_hz1 hz (by have q_ := hc; have q2_ := hs; (try simp only [List.length_append, List.length_cons, List.length_nil]); omega)
    have N9 := Fr.snoc X9 N6 gb
    have pre11 : ∀ t, Steps p.tables e below (T9.setTop (mkF m 8 #[.val (.ref wr), .val (.int v1), .val (.int (16 : Int32))] [])) t → Steps p.tables e below (s₁.setTop (entryFrame m #[(.ref wr), (.int v1)] 3)) t := fun t k => pre2 t (by
      show Steps p.tables e below (T1.setTop (mkF m 8 #[.val (.ref wr), .val (.int v1), .val (.int (24 : Int32))] [])) _
      refine XS.iloadN X3.here hx rfl (hb hby own_d9_8) rfl ?_
      show Steps p.tables e below (T1.setTop (mkF m 9 #[.val (.ref wr), .val (.int v1), .val (.int (24 : Int32))] [(.int (24 : Int32))])) _
      refine XS.ifNo X3.here hx rfl (hb hby own_d9_9) rfl ((if0 _ _).trans (flt (by decide : ¬ ((24 : Int32) < (0 : Int32)))).1) ?_
      show Steps p.tables e below (T1.setTop (mkF m 12 #[.val (.ref wr), .val (.int v1), .val (.int (24 : Int32))] [])) _
      refine XS.aloadN X3.here hx rfl (hb hby own_d9_12) rfl rfl ?_
      show Steps p.tables e below (T1.setTop (mkF m 13 #[.val (.ref wr), .val (.int v1), .val (.int (24 : Int32))] [(.ref wr)])) _
      refine st4 _ ?_
      show Steps p.tables e below (T4.setTop (mkF m 16 #[.val (.ref wr), .val (.int v1), .val (.int (24 : Int32))] [(.ref bf)])) _
      refine XS.aloadN X4.here hx rfl (hb hby own_d9_16) rfl rfl ?_
      show Steps p.tables e below (T4.setTop (mkF m 17 #[.val (.ref wr), .val (.int v1), .val (.int (24 : Int32))] [(.ref wr), (.ref bf)])) _
      refine XS.dup X4.here hx rfl (hb hby own_d9_17) rfl rfl ?_
      show Steps p.tables e below (T4.setTop (mkF m 18 #[.val (.ref wr), .val (.int v1), .val (.int (24 : Int32))] [(.ref wr), (.ref wr), (.ref bf)])) _
      refine st5 _ ?_
      show Steps p.tables e below (T5.setTop (mkF m 21 #[.val (.ref wr), .val (.int v1), .val (.int (24 : Int32))] [(.int zz), (.ref wr), (.ref bf)])) _
      refine XS.dupX1 X5.here hx rfl (hb hby own_d9_21) rfl rfl rfl ?_
      show Steps p.tables e below (T5.setTop (mkF m 22 #[.val (.ref wr), .val (.int v1), .val (.int (24 : Int32))] [(.int zz), (.ref wr), (.int zz), (.ref bf)])) _
      refine XS.iconst X5.here hx rfl (hb hby own_d9_22) ?_
      show Steps p.tables e below (T5.setTop (mkF m 23 #[.val (.ref wr), .val (.int v1), .val (.int (24 : Int32))] [(.int (1 : Int32)), (.int zz), (.ref wr), (.int zz), (.ref bf)])) _
      refine XS.iadd X5.here hx rfl (hb hby own_d9_23) rfl ?_
      show Steps p.tables e below (T5.setTop (mkF m 24 #[.val (.ref wr), .val (.int v1), .val (.int (24 : Int32))] [(.int (zz + (1 : Int32))), (.ref wr), (.int zz), (.ref bf)])) _
      refine st6 _ ?_
      show Steps p.tables e below (T6.setTop (mkF m 27 #[.val (.ref wr), .val (.int v1), .val (.int (24 : Int32))] [(.int zz), (.ref bf)])) _
      refine XS.iloadN X6.here hx rfl (hb hby own_d9_27) rfl ?_
      show Steps p.tables e below (T6.setTop (mkF m 28 #[.val (.ref wr), .val (.int v1), .val (.int (24 : Int32))] [(.int v1), (.int zz), (.ref bf)])) _
      refine XS.iloadN X6.here hx rfl (hb hby own_d9_28) rfl ?_
      show Steps p.tables e below (T6.setTop (mkF m 29 #[.val (.ref wr), .val (.int v1), .val (.int (24 : Int32))] [(.int (24 : Int32)), (.int v1), (.int zz), (.ref bf)])) _
      refine XS.iushr X6.here hx rfl (hb hby own_d9_29) rfl ?_
      show Steps p.tables e below (T6.setTop (mkF m 30 #[.val (.ref wr), .val (.int v1), .val (.int (24 : Int32))] [(.int ((v1.toUInt32 >>> ((24 : Int32) &&& 31).toUInt32).toInt32)), (.int zz), (.ref bf)])) _
      refine XS.i2b X6.here hx rfl (hb hby own_d9_30) rfl ?_
      show Steps p.tables e below (T6.setTop (mkF m 31 #[.val (.ref wr), .val (.int v1), .val (.int (24 : Int32))] [(.int (((v1.toUInt32 >>> ((24 : Int32) &&& 31).toUInt32).toInt32).toInt8.toInt32)), (.int zz), (.ref bf)])) _
      refine st9 _ ?_
      show Steps p.tables e below (T9.setTop (mkF m 32 #[.val (.ref wr), .val (.int v1), .val (.int (24 : Int32))] [])) _
      refine XS.iinc X9.here hx rfl (hb hby own_d9_32) rfl (l' := #[.val (.ref wr), .val (.int v1), .val (.int (16 : Int32))]) rfl ?_
      show Steps p.tables e below (T9.setTop (mkF m 35 #[.val (.ref wr), .val (.int v1), .val (.int (16 : Int32))] [])) _
      refine XS.goto X9.here hx rfl (pc0 := 35) (pc' := 8) rfl (hb hby own_d9_35) (by decide) (by decide) ?_
      exact k)
    obtain ⟨LL12, X12, N12⟩ : ∃ L, Stand p l e ({ frames := 1, cells := 0, slots := 0, locals := 13 } : Room) s m #[(.ref wr), (.int v1)] below meth c T9 L 0 0 ∧ Fr n0 L := ⟨_, X9, N9⟩
    as_aux_lemma =>
      obtain ⟨T13, X13, e13, st13⟩ := getF X12 hx hZ hown (host := "") (Or.inl (hw _ (List.mem_of_getElem? (i := 10) rfl))) Via.refl e9 Fb (g := (mkF m 13 #[.val (.ref wr), .val (.int v1), .val (.int (16 : Int32))] [(.ref wr)])) rfl rfl (hb hby own_d9_13)
      obtain ⟨T14, X14, e14, st14⟩ := getF X13 hx hZ hown (host := "") (Or.inl (hw _ (List.mem_of_getElem? (i := 17) rfl))) Via.refl e13 Fl (g := (mkF m 18 #[.val (.ref wr), .val (.int v1), .val (.int (16 : Int32))] [(.ref wr), (.ref wr), (.ref bf)])) rfl rfl (hb hby own_d9_18)
      obtain ⟨T15, h15, X15, e15, W15, st15⟩ := putF X14 hx hZ hown (host := "") (Or.inl (hw _ (List.mem_of_getElem? (i := 17) rfl))) Via.refl e14 Fl Ew (Or.inl (hw _ (List.mem_of_getElem? (i := 18) rfl))) (hw _ (List.mem_of_getElem? (i := 2) rfl)) (ty := .int) (by decide) rfl rfl (g := (mkF m 24 #[.val (.ref wr), .val (.int v1), .val (.int (16 : Int32))] [(.int ((zz + (1 : Int32)) + (1 : Int32))), (.ref wr), (.int (zz + (1 : Int32))), (.ref bf)])) rfl rfl (hb hby own_d9_24)
      have Ew := Ew.wr W15
      have Fb := Fb.other W15 (Or.inr (slot_ne (Or.inl (hw _ (List.mem_of_getElem? (i := 11) rfl))) (Or.inl (hw _ (List.mem_of_getElem? (i := 18) rfl))) (by decide) (t := (.array .byte)) (t' := .int) (by decide) (by decide)))
      have Vb := Vb.other W15 (Ne.symm ne_wr_bf)
      have Z16 : n0 ≤ h15.size := Nat.le_trans Z10 (Keep.of_wr W15).1
      have KP := KP.wr W15 (Or.inl (List.mem_of_getElem? (i := 0) rfl))
      have Fl := Fl.same W15
      have N15 := Fr.snoc X15 N12 gw
      obtain ⟨cl17, Ar17, q17, S17, M17, H17, G17⟩ := id Vb
      have hin17 : ¬ ((zz + (1 : Int32)) < 0 ∨ cl17.slots.size ≤ ((zz + (1 : Int32))).toNatClampNeg) := inb_of S17 (own_ib hz9 (by have q_ := hc; (try simp only [List.length_append, List.length_cons, List.length_nil]); omega))
      obtain ⟨T18, h18, X18, e18, W18, st18⟩ := stB X15 hx hZ e15 Ar17 (j := (zz + (1 : Int32))) hin17 (g := (mkF m 31 #[.val (.ref wr), .val (.int v1), .val (.int (16 : Int32))] [(.int (((v1.toUInt32 >>> ((16 : Int32) &&& 31).toUInt32).toInt32).toInt8.toInt32)), (.int (zz + (1 : Int32))), (.ref bf)])) rfl rfl (hb hby own_d9_31)
      have Ew := Ew.wr W18
      have Fb := Fb.other W18 (Or.inl ne_wr_bf)
      have Fl := Fl.other W18 (Or.inl ne_wr_bf)
      have Z19 : n0 ≤ h18.size := Nat.le_trans Z16 (Keep.of_wr W18).1
      have KP := KP.wr W18 (Or.inl (List.mem_of_getElem? (i := 1) rfl))
      have Vb : Arv Z h18 bf kb .byte cc (List.map Value.int ((DD ++ [(((v1.toUInt32 >>> ((24 : Int32) &&& 31).toUInt32).toInt32).toInt8.toInt32)]) ++ [(((v1.toUInt32 >>> ((16 : Int32) &&& 31).toUInt32).toInt32).toInt8.toInt32)])) (.int (0 : Int32)) := own_push Ar17 q17 S17 M17 H17 G17 W18 (own_ni _) hz9
      have hz18 : ((zz + (1 : Int32)) + (1 : Int32)).toInt = (((DD ++ [(((v1.toUInt32 >>> ((24 : Int32) &&& 31).toUInt32).toInt32).toInt8.toInt32)]) ++ [(((v1.toUInt32 >>> ((16 : Int32) &&& 31).toUInt32).toInt32).toInt8.toInt32)]).length : Int) := own_hz1 hz9 (by have q_ := hc; have q2_ := hs; (try simp only [List.length_append, List.length_cons, List.length_nil]); omega)
      have N18 := Fr.snoc X18 N15 gb
      have pre20 : ∀ t, Steps p.tables e below (T18.setTop (mkF m 8 #[.val (.ref wr), .val (.int v1), .val (.int (8 : Int32))] [])) t → Steps p.tables e below (s₁.setTop (entryFrame m #[(.ref wr), (.int v1)] 3)) t := fun t k => pre11 t (by
        show Steps p.tables e below (T9.setTop (mkF m 8 #[.val (.ref wr), .val (.int v1), .val (.int (16 : Int32))] [])) _
        refine XS.iloadN X12.here hx rfl (hb hby own_d9_8) rfl ?_
        show Steps p.tables e below (T9.setTop (mkF m 9 #[.val (.ref wr), .val (.int v1), .val (.int (16 : Int32))] [(.int (16 : Int32))])) _
        refine XS.ifNo X12.here hx rfl (hb hby own_d9_9) rfl ((if0 _ _).trans (flt (by decide : ¬ ((16 : Int32) < (0 : Int32)))).1) ?_
        show Steps p.tables e below (T9.setTop (mkF m 12 #[.val (.ref wr), .val (.int v1), .val (.int (16 : Int32))] [])) _
        refine XS.aloadN X12.here hx rfl (hb hby own_d9_12) rfl rfl ?_
        show Steps p.tables e below (T9.setTop (mkF m 13 #[.val (.ref wr), .val (.int v1), .val (.int (16 : Int32))] [(.ref wr)])) _
        refine st13 _ ?_
        show Steps p.tables e below (T13.setTop (mkF m 16 #[.val (.ref wr), .val (.int v1), .val (.int (16 : Int32))] [(.ref bf)])) _
        refine XS.aloadN X13.here hx rfl (hb hby own_d9_16) rfl rfl ?_
        show Steps p.tables e below (T13.setTop (mkF m 17 #[.val (.ref wr), .val (.int v1), .val (.int (16 : Int32))] [(.ref wr), (.ref bf)])) _
        refine XS.dup X13.here hx rfl (hb hby own_d9_17) rfl rfl ?_
        show Steps p.tables e below (T13.setTop (mkF m 18 #[.val (.ref wr), .val (.int v1), .val (.int (16 : Int32))] [(.ref wr), (.ref wr), (.ref bf)])) _
        refine st14 _ ?_
        show Steps p.tables e below (T14.setTop (mkF m 21 #[.val (.ref wr), .val (.int v1), .val (.int (16 : Int32))] [(.int (zz + (1 : Int32))), (.ref wr), (.ref bf)])) _
        refine XS.dupX1 X14.here hx rfl (hb hby own_d9_21) rfl rfl rfl ?_
        show Steps p.tables e below (T14.setTop (mkF m 22 #[.val (.ref wr), .val (.int v1), .val (.int (16 : Int32))] [(.int (zz + (1 : Int32))), (.ref wr), (.int (zz + (1 : Int32))), (.ref bf)])) _
        refine XS.iconst X14.here hx rfl (hb hby own_d9_22) ?_
        show Steps p.tables e below (T14.setTop (mkF m 23 #[.val (.ref wr), .val (.int v1), .val (.int (16 : Int32))] [(.int (1 : Int32)), (.int (zz + (1 : Int32))), (.ref wr), (.int (zz + (1 : Int32))), (.ref bf)])) _
        refine XS.iadd X14.here hx rfl (hb hby own_d9_23) rfl ?_
        show Steps p.tables e below (T14.setTop (mkF m 24 #[.val (.ref wr), .val (.int v1), .val (.int (16 : Int32))] [(.int ((zz + (1 : Int32)) + (1 : Int32))), (.ref wr), (.int (zz + (1 : Int32))), (.ref bf)])) _
        refine st15 _ ?_
        show Steps p.tables e below (T15.setTop (mkF m 27 #[.val (.ref wr), .val (.int v1), .val (.int (16 : Int32))] [(.int (zz + (1 : Int32))), (.ref bf)])) _
        refine XS.iloadN X15.here hx rfl (hb hby own_d9_27) rfl ?_
        show Steps p.tables e below (T15.setTop (mkF m 28 #[.val (.ref wr), .val (.int v1), .val (.int (16 : Int32))] [(.int v1), (.int (zz + (1 : Int32))), (.ref bf)])) _
        refine XS.iloadN X15.here hx rfl (hb hby own_d9_28) rfl ?_
        show Steps p.tables e below (T15.setTop (mkF m 29 #[.val (.ref wr), .val (.int v1), .val (.int (16 : Int32))] [(.int (16 : Int32)), (.int v1), (.int (zz + (1 : Int32))), (.ref bf)])) _
        refine XS.iushr X15.here hx rfl (hb hby own_d9_29) rfl ?_
        show Steps p.tables e below (T15.setTop (mkF m 30 #[.val (.ref wr), .val (.int v1), .val (.int (16 : Int32))] [(.int ((v1.toUInt32 >>> ((16 : Int32) &&& 31).toUInt32).toInt32)), (.int (zz + (1 : Int32))), (.ref bf)])) _
        refine XS.i2b X15.here hx rfl (hb hby own_d9_30) rfl ?_
        show Steps p.tables e below (T15.setTop (mkF m 31 #[.val (.ref wr), .val (.int v1), .val (.int (16 : Int32))] [(.int (((v1.toUInt32 >>> ((16 : Int32) &&& 31).toUInt32).toInt32).toInt8.toInt32)), (.int (zz + (1 : Int32))), (.ref bf)])) _
        refine st18 _ ?_
        show Steps p.tables e below (T18.setTop (mkF m 32 #[.val (.ref wr), .val (.int v1), .val (.int (16 : Int32))] [])) _
        refine XS.iinc X18.here hx rfl (hb hby own_d9_32) rfl (l' := #[.val (.ref wr), .val (.int v1), .val (.int (8 : Int32))]) rfl ?_
        show Steps p.tables e below (T18.setTop (mkF m 35 #[.val (.ref wr), .val (.int v1), .val (.int (8 : Int32))] [])) _
        refine XS.goto X18.here hx rfl (pc0 := 35) (pc' := 8) rfl (hb hby own_d9_35) (by decide) (by decide) ?_
        exact k)
      obtain ⟨LL21, X21, N21⟩ : ∃ L, Stand p l e ({ frames := 1, cells := 0, slots := 0, locals := 13 } : Room) s m #[(.ref wr), (.int v1)] below meth c T18 L 0 0 ∧ Fr n0 L := ⟨_, X18, N18⟩
      as_aux_lemma =>
        obtain ⟨T22, X22, e22, st22⟩ := getF X21 hx hZ hown (host := "") (Or.inl (hw _ (List.mem_of_getElem? (i := 10) rfl))) Via.refl e18 Fb (g := (mkF m 13 #[.val (.ref wr), .val (.int v1), .val (.int (8 : Int32))] [(.ref wr)])) rfl rfl (hb hby own_d9_13)
        obtain ⟨T23, X23, e23, st23⟩ := getF X22 hx hZ hown (host := "") (Or.inl (hw _ (List.mem_of_getElem? (i := 17) rfl))) Via.refl e22 Fl (g := (mkF m 18 #[.val (.ref wr), .val (.int v1), .val (.int (8 : Int32))] [(.ref wr), (.ref wr), (.ref bf)])) rfl rfl (hb hby own_d9_18)
        obtain ⟨T24, h24, X24, e24, W24, st24⟩ := putF X23 hx hZ hown (host := "") (Or.inl (hw _ (List.mem_of_getElem? (i := 17) rfl))) Via.refl e23 Fl Ew (Or.inl (hw _ (List.mem_of_getElem? (i := 18) rfl))) (hw _ (List.mem_of_getElem? (i := 2) rfl)) (ty := .int) (by decide) rfl rfl (g := (mkF m 24 #[.val (.ref wr), .val (.int v1), .val (.int (8 : Int32))] [(.int (((zz + (1 : Int32)) + (1 : Int32)) + (1 : Int32))), (.ref wr), (.int ((zz + (1 : Int32)) + (1 : Int32))), (.ref bf)])) rfl rfl (hb hby own_d9_24)
        have Ew := Ew.wr W24
        have Fb := Fb.other W24 (Or.inr (slot_ne (Or.inl (hw _ (List.mem_of_getElem? (i := 11) rfl))) (Or.inl (hw _ (List.mem_of_getElem? (i := 18) rfl))) (by decide) (t := (.array .byte)) (t' := .int) (by decide) (by decide)))
        have Vb := Vb.other W24 (Ne.symm ne_wr_bf)
        have Z25 : n0 ≤ h24.size := Nat.le_trans Z19 (Keep.of_wr W24).1
        have KP := KP.wr W24 (Or.inl (List.mem_of_getElem? (i := 0) rfl))
        have Fl := Fl.same W24
        have N24 := Fr.snoc X24 N21 gw
        obtain ⟨cl26, Ar26, q26, S26, M26, H26, G26⟩ := id Vb
        have hin26 : ¬ (((zz + (1 : Int32)) + (1 : Int32)) < 0 ∨ cl26.slots.size ≤ (((zz + (1 : Int32)) + (1 : Int32))).toNatClampNeg) := inb_of S26 (own_ib hz18 (by have q_ := hc; (try simp only [List.length_append, List.length_cons, List.length_nil]); omega))
        obtain ⟨T27, h27, X27, e27, W27, st27⟩ := stB X24 hx hZ e24 Ar26 (j := ((zz + (1 : Int32)) + (1 : Int32))) hin26 (g := (mkF m 31 #[.val (.ref wr), .val (.int v1), .val (.int (8 : Int32))] [(.int (((v1.toUInt32 >>> ((8 : Int32) &&& 31).toUInt32).toInt32).toInt8.toInt32)), (.int ((zz + (1 : Int32)) + (1 : Int32))), (.ref bf)])) rfl rfl (hb hby own_d9_31)
        have Ew := Ew.wr W27
        have Fb := Fb.other W27 (Or.inl ne_wr_bf)
        have Fl := Fl.other W27 (Or.inl ne_wr_bf)
        have Z28 : n0 ≤ h27.size := Nat.le_trans Z25 (Keep.of_wr W27).1
        have KP := KP.wr W27 (Or.inl (List.mem_of_getElem? (i := 1) rfl))
        have Vb : Arv Z h27 bf kb .byte cc (List.map Value.int (((DD ++ [(((v1.toUInt32 >>> ((24 : Int32) &&& 31).toUInt32).toInt32).toInt8.toInt32)]) ++ [(((v1.toUInt32 >>> ((16 : Int32) &&& 31).toUInt32).toInt32).toInt8.toInt32)]) ++ [(((v1.toUInt32 >>> ((8 : Int32) &&& 31).toUInt32).toInt32).toInt8.toInt32)])) (.int (0 : Int32)) := own_push Ar26 q26 S26 M26 H26 G26 W27 (own_ni _) hz18
        have hz27 : (((zz + (1 : Int32)) + (1 : Int32)) + (1 : Int32)).toInt = ((((DD ++ [(((v1.toUInt32 >>> ((24 : Int32) &&& 31).toUInt32).toInt32).toInt8.toInt32)]) ++ [(((v1.toUInt32 >>> ((16 : Int32) &&& 31).toUInt32).toInt32).toInt8.toInt32)]) ++ [(((v1.toUInt32 >>> ((8 : Int32) &&& 31).toUInt32).toInt32).toInt8.toInt32)]).length : Int) := own_hz1 hz18 (by have q_ := hc; have q2_ := hs; (try simp only [List.length_append, List.length_cons, List.length_nil]); omega)
        have N27 := Fr.snoc X27 N24 gb
        have pre29 : ∀ t, Steps p.tables e below (T27.setTop (mkF m 8 #[.val (.ref wr), .val (.int v1), .val (.int (0 : Int32))] [])) t → Steps p.tables e below (s₁.setTop (entryFrame m #[(.ref wr), (.int v1)] 3)) t := fun t k => pre20 t (by
          show Steps p.tables e below (T18.setTop (mkF m 8 #[.val (.ref wr), .val (.int v1), .val (.int (8 : Int32))] [])) _
          refine XS.iloadN X21.here hx rfl (hb hby own_d9_8) rfl ?_
          show Steps p.tables e below (T18.setTop (mkF m 9 #[.val (.ref wr), .val (.int v1), .val (.int (8 : Int32))] [(.int (8 : Int32))])) _
          refine XS.ifNo X21.here hx rfl (hb hby own_d9_9) rfl ((if0 _ _).trans (flt (by decide : ¬ ((8 : Int32) < (0 : Int32)))).1) ?_
          show Steps p.tables e below (T18.setTop (mkF m 12 #[.val (.ref wr), .val (.int v1), .val (.int (8 : Int32))] [])) _
          refine XS.aloadN X21.here hx rfl (hb hby own_d9_12) rfl rfl ?_
          show Steps p.tables e below (T18.setTop (mkF m 13 #[.val (.ref wr), .val (.int v1), .val (.int (8 : Int32))] [(.ref wr)])) _
          refine st22 _ ?_
          show Steps p.tables e below (T22.setTop (mkF m 16 #[.val (.ref wr), .val (.int v1), .val (.int (8 : Int32))] [(.ref bf)])) _
          refine XS.aloadN X22.here hx rfl (hb hby own_d9_16) rfl rfl ?_
          show Steps p.tables e below (T22.setTop (mkF m 17 #[.val (.ref wr), .val (.int v1), .val (.int (8 : Int32))] [(.ref wr), (.ref bf)])) _
          refine XS.dup X22.here hx rfl (hb hby own_d9_17) rfl rfl ?_
          show Steps p.tables e below (T22.setTop (mkF m 18 #[.val (.ref wr), .val (.int v1), .val (.int (8 : Int32))] [(.ref wr), (.ref wr), (.ref bf)])) _
          refine st23 _ ?_
          show Steps p.tables e below (T23.setTop (mkF m 21 #[.val (.ref wr), .val (.int v1), .val (.int (8 : Int32))] [(.int ((zz + (1 : Int32)) + (1 : Int32))), (.ref wr), (.ref bf)])) _
          refine XS.dupX1 X23.here hx rfl (hb hby own_d9_21) rfl rfl rfl ?_
          show Steps p.tables e below (T23.setTop (mkF m 22 #[.val (.ref wr), .val (.int v1), .val (.int (8 : Int32))] [(.int ((zz + (1 : Int32)) + (1 : Int32))), (.ref wr), (.int ((zz + (1 : Int32)) + (1 : Int32))), (.ref bf)])) _
          refine XS.iconst X23.here hx rfl (hb hby own_d9_22) ?_
          show Steps p.tables e below (T23.setTop (mkF m 23 #[.val (.ref wr), .val (.int v1), .val (.int (8 : Int32))] [(.int (1 : Int32)), (.int ((zz + (1 : Int32)) + (1 : Int32))), (.ref wr), (.int ((zz + (1 : Int32)) + (1 : Int32))), (.ref bf)])) _
          refine XS.iadd X23.here hx rfl (hb hby own_d9_23) rfl ?_
          show Steps p.tables e below (T23.setTop (mkF m 24 #[.val (.ref wr), .val (.int v1), .val (.int (8 : Int32))] [(.int (((zz + (1 : Int32)) + (1 : Int32)) + (1 : Int32))), (.ref wr), (.int ((zz + (1 : Int32)) + (1 : Int32))), (.ref bf)])) _
          refine st24 _ ?_
          show Steps p.tables e below (T24.setTop (mkF m 27 #[.val (.ref wr), .val (.int v1), .val (.int (8 : Int32))] [(.int ((zz + (1 : Int32)) + (1 : Int32))), (.ref bf)])) _
          refine XS.iloadN X24.here hx rfl (hb hby own_d9_27) rfl ?_
          show Steps p.tables e below (T24.setTop (mkF m 28 #[.val (.ref wr), .val (.int v1), .val (.int (8 : Int32))] [(.int v1), (.int ((zz + (1 : Int32)) + (1 : Int32))), (.ref bf)])) _
          refine XS.iloadN X24.here hx rfl (hb hby own_d9_28) rfl ?_
          show Steps p.tables e below (T24.setTop (mkF m 29 #[.val (.ref wr), .val (.int v1), .val (.int (8 : Int32))] [(.int (8 : Int32)), (.int v1), (.int ((zz + (1 : Int32)) + (1 : Int32))), (.ref bf)])) _
          refine XS.iushr X24.here hx rfl (hb hby own_d9_29) rfl ?_
          show Steps p.tables e below (T24.setTop (mkF m 30 #[.val (.ref wr), .val (.int v1), .val (.int (8 : Int32))] [(.int ((v1.toUInt32 >>> ((8 : Int32) &&& 31).toUInt32).toInt32)), (.int ((zz + (1 : Int32)) + (1 : Int32))), (.ref bf)])) _
          refine XS.i2b X24.here hx rfl (hb hby own_d9_30) rfl ?_
          show Steps p.tables e below (T24.setTop (mkF m 31 #[.val (.ref wr), .val (.int v1), .val (.int (8 : Int32))] [(.int (((v1.toUInt32 >>> ((8 : Int32) &&& 31).toUInt32).toInt32).toInt8.toInt32)), (.int ((zz + (1 : Int32)) + (1 : Int32))), (.ref bf)])) _
          refine st27 _ ?_
          show Steps p.tables e below (T27.setTop (mkF m 32 #[.val (.ref wr), .val (.int v1), .val (.int (8 : Int32))] [])) _
          refine XS.iinc X27.here hx rfl (hb hby own_d9_32) rfl (l' := #[.val (.ref wr), .val (.int v1), .val (.int (0 : Int32))]) rfl ?_
          show Steps p.tables e below (T27.setTop (mkF m 35 #[.val (.ref wr), .val (.int v1), .val (.int (0 : Int32))] [])) _
          refine XS.goto X27.here hx rfl (pc0 := 35) (pc' := 8) rfl (hb hby own_d9_35) (by decide) (by decide) ?_
          exact k)
        obtain ⟨LL30, X30, N30⟩ : ∃ L, Stand p l e ({ frames := 1, cells := 0, slots := 0, locals := 13 } : Room) s m #[(.ref wr), (.int v1)] below meth c T27 L 0 0 ∧ Fr n0 L := ⟨_, X27, N27⟩
        as_aux_lemma =>
          obtain ⟨T31, X31, e31, st31⟩ := getF X30 hx hZ hown (host := "") (Or.inl (hw _ (List.mem_of_getElem? (i := 10) rfl))) Via.refl e27 Fb (g := (mkF m 13 #[.val (.ref wr), .val (.int v1), .val (.int (0 : Int32))] [(.ref wr)])) rfl rfl (hb hby own_d9_13)
          obtain ⟨T32, X32, e32, st32⟩ := getF X31 hx hZ hown (host := "") (Or.inl (hw _ (List.mem_of_getElem? (i := 17) rfl))) Via.refl e31 Fl (g := (mkF m 18 #[.val (.ref wr), .val (.int v1), .val (.int (0 : Int32))] [(.ref wr), (.ref wr), (.ref bf)])) rfl rfl (hb hby own_d9_18)
          obtain ⟨T33, h33, X33, e33, W33, st33⟩ := putF X32 hx hZ hown (host := "") (Or.inl (hw _ (List.mem_of_getElem? (i := 17) rfl))) Via.refl e32 Fl Ew (Or.inl (hw _ (List.mem_of_getElem? (i := 18) rfl))) (hw _ (List.mem_of_getElem? (i := 2) rfl)) (ty := .int) (by decide) rfl rfl (g := (mkF m 24 #[.val (.ref wr), .val (.int v1), .val (.int (0 : Int32))] [(.int ((((zz + (1 : Int32)) + (1 : Int32)) + (1 : Int32)) + (1 : Int32))), (.ref wr), (.int (((zz + (1 : Int32)) + (1 : Int32)) + (1 : Int32))), (.ref bf)])) rfl rfl (hb hby own_d9_24)
          have Ew := Ew.wr W33
          have Fb := Fb.other W33 (Or.inr (slot_ne (Or.inl (hw _ (List.mem_of_getElem? (i := 11) rfl))) (Or.inl (hw _ (List.mem_of_getElem? (i := 18) rfl))) (by decide) (t := (.array .byte)) (t' := .int) (by decide) (by decide)))
          have Vb := Vb.other W33 (Ne.symm ne_wr_bf)
          have Z34 : n0 ≤ h33.size := Nat.le_trans Z28 (Keep.of_wr W33).1
          have KP := KP.wr W33 (Or.inl (List.mem_of_getElem? (i := 0) rfl))
          have Fl := Fl.same W33
          have N33 := Fr.snoc X33 N30 gw
          obtain ⟨cl35, Ar35, q35, S35, M35, H35, G35⟩ := id Vb
          have hin35 : ¬ ((((zz + (1 : Int32)) + (1 : Int32)) + (1 : Int32)) < 0 ∨ cl35.slots.size ≤ ((((zz + (1 : Int32)) + (1 : Int32)) + (1 : Int32))).toNatClampNeg) := inb_of S35 (own_ib hz27 (by have q_ := hc; (try simp only [List.length_append, List.length_cons, List.length_nil]); omega))
          obtain ⟨T36, h36, X36, e36, W36, st36⟩ := stB X33 hx hZ e33 Ar35 (j := (((zz + (1 : Int32)) + (1 : Int32)) + (1 : Int32))) hin35 (g := (mkF m 31 #[.val (.ref wr), .val (.int v1), .val (.int (0 : Int32))] [(.int (((v1.toUInt32 >>> ((0 : Int32) &&& 31).toUInt32).toInt32).toInt8.toInt32)), (.int (((zz + (1 : Int32)) + (1 : Int32)) + (1 : Int32))), (.ref bf)])) rfl rfl (hb hby own_d9_31)
          have Ew := Ew.wr W36
          have Fb := Fb.other W36 (Or.inl ne_wr_bf)
          have Fl := Fl.other W36 (Or.inl ne_wr_bf)
          have Z37 : n0 ≤ h36.size := Nat.le_trans Z34 (Keep.of_wr W36).1
          have KP := KP.wr W36 (Or.inl (List.mem_of_getElem? (i := 1) rfl))
          have Vb : Arv Z h36 bf kb .byte cc (List.map Value.int ((((DD ++ [(((v1.toUInt32 >>> ((24 : Int32) &&& 31).toUInt32).toInt32).toInt8.toInt32)]) ++ [(((v1.toUInt32 >>> ((16 : Int32) &&& 31).toUInt32).toInt32).toInt8.toInt32)]) ++ [(((v1.toUInt32 >>> ((8 : Int32) &&& 31).toUInt32).toInt32).toInt8.toInt32)]) ++ [(((v1.toUInt32 >>> ((0 : Int32) &&& 31).toUInt32).toInt32).toInt8.toInt32)])) (.int (0 : Int32)) := own_push Ar35 q35 S35 M35 H35 G35 W36 (own_ni _) hz27
          have hz36 : ((((zz + (1 : Int32)) + (1 : Int32)) + (1 : Int32)) + (1 : Int32)).toInt = (((((DD ++ [(((v1.toUInt32 >>> ((24 : Int32) &&& 31).toUInt32).toInt32).toInt8.toInt32)]) ++ [(((v1.toUInt32 >>> ((16 : Int32) &&& 31).toUInt32).toInt32).toInt8.toInt32)]) ++ [(((v1.toUInt32 >>> ((8 : Int32) &&& 31).toUInt32).toInt32).toInt8.toInt32)]) ++ [(((v1.toUInt32 >>> ((0 : Int32) &&& 31).toUInt32).toInt32).toInt8.toInt32)]).length : Int) := own_hz1 hz27 (by have q_ := hc; have q2_ := hs; (try simp only [List.length_append, List.length_cons, List.length_nil]); omega)
          have N36 := Fr.snoc X36 N33 gb
          have pre38 : ∀ t, Steps p.tables e below (T36.setTop (mkF m 8 #[.val (.ref wr), .val (.int v1), .val (.int (-8 : Int32))] [])) t → Steps p.tables e below (s₁.setTop (entryFrame m #[(.ref wr), (.int v1)] 3)) t := fun t k => pre29 t (by
            show Steps p.tables e below (T27.setTop (mkF m 8 #[.val (.ref wr), .val (.int v1), .val (.int (0 : Int32))] [])) _
            refine XS.iloadN X30.here hx rfl (hb hby own_d9_8) rfl ?_
            show Steps p.tables e below (T27.setTop (mkF m 9 #[.val (.ref wr), .val (.int v1), .val (.int (0 : Int32))] [(.int (0 : Int32))])) _
            refine XS.ifNo X30.here hx rfl (hb hby own_d9_9) rfl ((if0 _ _).trans (flt (by decide : ¬ ((0 : Int32) < (0 : Int32)))).1) ?_
            show Steps p.tables e below (T27.setTop (mkF m 12 #[.val (.ref wr), .val (.int v1), .val (.int (0 : Int32))] [])) _
            refine XS.aloadN X30.here hx rfl (hb hby own_d9_12) rfl rfl ?_
            show Steps p.tables e below (T27.setTop (mkF m 13 #[.val (.ref wr), .val (.int v1), .val (.int (0 : Int32))] [(.ref wr)])) _
            refine st31 _ ?_
            show Steps p.tables e below (T31.setTop (mkF m 16 #[.val (.ref wr), .val (.int v1), .val (.int (0 : Int32))] [(.ref bf)])) _
            refine XS.aloadN X31.here hx rfl (hb hby own_d9_16) rfl rfl ?_
            show Steps p.tables e below (T31.setTop (mkF m 17 #[.val (.ref wr), .val (.int v1), .val (.int (0 : Int32))] [(.ref wr), (.ref bf)])) _
            refine XS.dup X31.here hx rfl (hb hby own_d9_17) rfl rfl ?_
            show Steps p.tables e below (T31.setTop (mkF m 18 #[.val (.ref wr), .val (.int v1), .val (.int (0 : Int32))] [(.ref wr), (.ref wr), (.ref bf)])) _
            refine st32 _ ?_
            show Steps p.tables e below (T32.setTop (mkF m 21 #[.val (.ref wr), .val (.int v1), .val (.int (0 : Int32))] [(.int (((zz + (1 : Int32)) + (1 : Int32)) + (1 : Int32))), (.ref wr), (.ref bf)])) _
            refine XS.dupX1 X32.here hx rfl (hb hby own_d9_21) rfl rfl rfl ?_
            show Steps p.tables e below (T32.setTop (mkF m 22 #[.val (.ref wr), .val (.int v1), .val (.int (0 : Int32))] [(.int (((zz + (1 : Int32)) + (1 : Int32)) + (1 : Int32))), (.ref wr), (.int (((zz + (1 : Int32)) + (1 : Int32)) + (1 : Int32))), (.ref bf)])) _
            refine XS.iconst X32.here hx rfl (hb hby own_d9_22) ?_
            show Steps p.tables e below (T32.setTop (mkF m 23 #[.val (.ref wr), .val (.int v1), .val (.int (0 : Int32))] [(.int (1 : Int32)), (.int (((zz + (1 : Int32)) + (1 : Int32)) + (1 : Int32))), (.ref wr), (.int (((zz + (1 : Int32)) + (1 : Int32)) + (1 : Int32))), (.ref bf)])) _
            refine XS.iadd X32.here hx rfl (hb hby own_d9_23) rfl ?_
            show Steps p.tables e below (T32.setTop (mkF m 24 #[.val (.ref wr), .val (.int v1), .val (.int (0 : Int32))] [(.int ((((zz + (1 : Int32)) + (1 : Int32)) + (1 : Int32)) + (1 : Int32))), (.ref wr), (.int (((zz + (1 : Int32)) + (1 : Int32)) + (1 : Int32))), (.ref bf)])) _
            refine st33 _ ?_
            show Steps p.tables e below (T33.setTop (mkF m 27 #[.val (.ref wr), .val (.int v1), .val (.int (0 : Int32))] [(.int (((zz + (1 : Int32)) + (1 : Int32)) + (1 : Int32))), (.ref bf)])) _
            refine XS.iloadN X33.here hx rfl (hb hby own_d9_27) rfl ?_
            show Steps p.tables e below (T33.setTop (mkF m 28 #[.val (.ref wr), .val (.int v1), .val (.int (0 : Int32))] [(.int v1), (.int (((zz + (1 : Int32)) + (1 : Int32)) + (1 : Int32))), (.ref bf)])) _
            refine XS.iloadN X33.here hx rfl (hb hby own_d9_28) rfl ?_
            show Steps p.tables e below (T33.setTop (mkF m 29 #[.val (.ref wr), .val (.int v1), .val (.int (0 : Int32))] [(.int (0 : Int32)), (.int v1), (.int (((zz + (1 : Int32)) + (1 : Int32)) + (1 : Int32))), (.ref bf)])) _
            refine XS.iushr X33.here hx rfl (hb hby own_d9_29) rfl ?_
            show Steps p.tables e below (T33.setTop (mkF m 30 #[.val (.ref wr), .val (.int v1), .val (.int (0 : Int32))] [(.int ((v1.toUInt32 >>> ((0 : Int32) &&& 31).toUInt32).toInt32)), (.int (((zz + (1 : Int32)) + (1 : Int32)) + (1 : Int32))), (.ref bf)])) _
            refine XS.i2b X33.here hx rfl (hb hby own_d9_30) rfl ?_
            show Steps p.tables e below (T33.setTop (mkF m 31 #[.val (.ref wr), .val (.int v1), .val (.int (0 : Int32))] [(.int (((v1.toUInt32 >>> ((0 : Int32) &&& 31).toUInt32).toInt32).toInt8.toInt32)), (.int (((zz + (1 : Int32)) + (1 : Int32)) + (1 : Int32))), (.ref bf)])) _
            refine st36 _ ?_
            show Steps p.tables e below (T36.setTop (mkF m 32 #[.val (.ref wr), .val (.int v1), .val (.int (0 : Int32))] [])) _
            refine XS.iinc X36.here hx rfl (hb hby own_d9_32) rfl (l' := #[.val (.ref wr), .val (.int v1), .val (.int (-8 : Int32))]) rfl ?_
            show Steps p.tables e below (T36.setTop (mkF m 35 #[.val (.ref wr), .val (.int v1), .val (.int (-8 : Int32))] [])) _
            refine XS.goto X36.here hx rfl (pc0 := 35) (pc' := 8) rfl (hb hby own_d9_35) (by decide) (by decide) ?_
            exact k)
          obtain ⟨LL39, X39, N39⟩ : ∃ L, Stand p l e ({ frames := 1, cells := 0, slots := 0, locals := 13 } : Room) s m #[(.ref wr), (.int v1)] below meth c T36 L 0 0 ∧ Fr n0 L := ⟨_, X36, N36⟩
          as_aux_lemma =>
            obtain ⟨fs, hr, hrun, hended, hW, hsame⟩ := X39.leave (v := none) (fun _ => rfl)
            refine ⟨_, _, pre38 _ ?_, hrun, hended, _, _, rfl, ?_, ⟨_, rfl⟩, hW, hsame.mono (by decide) (by decide)⟩
            · show Steps p.tables e below (T36.setTop (mkF m 8 #[.val (.ref wr), .val (.int v1), .val (.int (-8 : Int32))] [])) _
              refine XS.iloadN X39.here hx rfl (hb hby own_d9_8) rfl ?_
              show Steps p.tables e below (T36.setTop (mkF m 9 #[.val (.ref wr), .val (.int v1), .val (.int (-8 : Int32))] [(.int (-8 : Int32))])) _
              refine XS.ifYes X39.here hx rfl (pc0 := 9) (pc' := 38) rfl (hb hby own_d9_9) rfl ((if0 _ _).trans (tlt (by decide : (-8 : Int32) < (0 : Int32))).1) (by decide) (by decide) ?_
              show Steps p.tables e below (T36.setTop (mkF m 38 #[.val (.ref wr), .val (.int v1), .val (.int (-8 : Int32))] [])) _
              exact X39.returnOut hx Bd.returns (hb hby own_d9_38) hr
            · show own_Q_own_int32N Z wr v1 bf kb cc zz DD h0 n0 _ T36.heap _
              rw [e36]
              exact ⟨rfl, N39, KP, Fb, (own_zl4 zz) ▸ Fl, (own_dl4 DD v1) ▸ Vb⟩
theorem own_d10_0 : decode prog_49_method_5_code 0 = .ok (.aload_n 0, 1) := by decide +kernel
theorem own_d10_1 : decode prog_49_method_5_code 1 = .ok (.bipush 8, 2) := by decide +kernel
theorem own_d10_3 : decode prog_49_method_5_code 3 = .ok (.invokevirtual 13, 3) := by decide +kernel
theorem own_d10_6 : decode prog_49_method_5_code 6 = .ok (.bipush 56, 2) := by decide +kernel
theorem own_d10_8 : decode prog_49_method_5_code 8 = .ok (.istore_n 3, 1) := by decide +kernel
theorem own_d10_9 : decode prog_49_method_5_code 9 = .ok (.iload_n 3, 1) := by decide +kernel
theorem own_d10_10 : decode prog_49_method_5_code 10 = .ok (.ifCond .lt 30, 3) := by decide +kernel
theorem own_d10_13 : decode prog_49_method_5_code 13 = .ok (.aload_n 0, 1) := by decide +kernel
theorem own_d10_14 : decode prog_49_method_5_code 14 = .ok (.getfield 7, 3) := by decide +kernel
theorem own_d10_17 : decode prog_49_method_5_code 17 = .ok (.aload_n 0, 1) := by decide +kernel
theorem own_d10_18 : decode prog_49_method_5_code 18 = .ok (.dup, 1) := by decide +kernel
theorem own_d10_19 : decode prog_49_method_5_code 19 = .ok (.getfield 17, 3) := by decide +kernel
theorem own_d10_22 : decode prog_49_method_5_code 22 = .ok (.dup_x1, 1) := by decide +kernel
theorem own_d10_23 : decode prog_49_method_5_code 23 = .ok (.iconst 1, 1) := by decide +kernel
theorem own_d10_24 : decode prog_49_method_5_code 24 = .ok (.iadd, 1) := by decide +kernel
theorem own_d10_25 : decode prog_49_method_5_code 25 = .ok (.putfield 17, 3) := by decide +kernel
theorem own_d10_28 : decode prog_49_method_5_code 28 = .ok (.lload_n 1, 1) := by decide +kernel
theorem own_d10_29 : decode prog_49_method_5_code 29 = .ok (.iload_n 3, 1) := by decide +kernel
theorem own_d10_30 : decode prog_49_method_5_code 30 = .ok (.lushr, 1) := by decide +kernel
theorem own_d10_31 : decode prog_49_method_5_code 31 = .ok (.l2i, 1) := by decide +kernel
theorem own_d10_32 : decode prog_49_method_5_code 32 = .ok (.i2b, 1) := by decide +kernel
theorem own_d10_33 : decode prog_49_method_5_code 33 = .ok (.bastore, 1) := by decide +kernel
theorem own_d10_34 : decode prog_49_method_5_code 34 = .ok (.iinc 3 (-8), 3) := by decide +kernel
theorem own_d10_37 : decode prog_49_method_5_code 37 = .ok (.goto (-28), 3) := by decide +kernel
theorem own_d10_40 : decode prog_49_method_5_code 40 = .ok (.return_, 1) := by decide +kernel
theorem own_ef10 (m : MethodId) (x0 : Addr) (x1 : Int64) : entryFrame m #[(.ref x0), (.long x1)] 4 = mkF m 0 #[.val (.ref x0), .val (.long x1), .second, .unset] [] := by first | (simp [entryFrame, mkF, argsToLocals, Value.category]; done) | rfl
def own_Q_own_int64N (Z : State) (wr : Addr) (v1 : Int64) (bf : Addr) (kb : ClassId) (cc : Int32) (zz : Int32) (DD : List Int32) (h0 : Heap) (n0 : Nat) (v : Option Value) (h : Heap) (L : List Loc) : Prop := v = none ∧ Fr n0 L ∧ Keep h0 h [wr, bf] ∧ Fld Z h wr "com/example/vigilant_consumer/vigilantconsumer/ProtocolWriter" "bytes" "[B" (.ref bf) ∧ Fld Z h wr "com/example/vigilant_consumer/vigilantconsumer/ProtocolWriter" "length" "I" (.int (zz + (8 : Int32))) ∧ Arv Z h bf kb .byte cc (List.map Value.int (DD ++ own_l64 v1)) (.int (0 : Int32))
set_option maxRecDepth 65536 in
set_option maxHeartbeats 40000000 in
theorem own_int64N (l : Launch) (Z : State) (a0 : Array Value) (hw : ∀ d ∈ tables_1, d.before a0 Z = true) (ws : List Jvm.Cond) (wr : Addr) (v1 : Int64) (bf : Addr) (kb : ClassId) (cc : Int32) (zz : Int32) (DD : List Int32) (h0 : Heap) (n0 : Nat) (Z0 : n0 ≤ h0.size) (Ew : Exa Z h0 wr "com/example/vigilant_consumer/vigilantconsumer/ProtocolWriter") (Fb : Fld Z h0 wr "com/example/vigilant_consumer/vigilantconsumer/ProtocolWriter" "bytes" "[B" (.ref bf)) (Fl : Fld Z h0 wr "com/example/vigilant_consumer/vigilantconsumer/ProtocolWriter" "length" "I" (.int zz)) (Vb : Arv Z h0 bf kb .byte cc (List.map Value.int DD) (.int (0 : Int32))) (gw : n0 ≤ wr) (gb : n0 ≤ bf) (hz : zz.toInt = (DD.length : Int)) (hc : (DD.length : Int) + 8 ≤ cc.toInt) (hs : cc.toInt ≤ 128) :
    MetFree l (⟨"com/example/vigilant_consumer/vigilantconsumer/ProtocolWriter", "int64", "(J)V"⟩ : MethodName) (head1 (Jvm.Cond.code (⟨"com/example/vigilant_consumer/vigilantconsumer/ProtocolWriter", "int64", "(J)V"⟩ : MethodName) prog_49_method_5_code 4 none :: ws) ({ frames := 1, cells := 0, slots := 0, locals := 13 } : Room)) (fun as_ U => as_ = #[(.ref wr), (.long v1)] ∧ Z.Warmed39 U.vm ∧ U.heap = h0) (fun _ _ _ _ _ => True) (fun _ U o U' => ∃ v L, o = .returned v ∧ own_Q_own_int64N Z wr v1 bf kb cc zz DD h0 n0 v U'.heap L ∧ FrameEnd U o U' L ({ frames := 1, cells := 0, slots := 0, locals := 13 } : Room).cells ({ frames := 1, cells := 0, slots := 0, locals := 13 } : Room).slots) := by
  refine MetFree.of_bodySF (plainFor_of_name own_pn0) hisR ?_
  intro p e s m args below meth c s₁ Bd hml0 hP hK
  obtain ⟨rfl, hZ, hh⟩ := hP
  have hx := Bd.exec
  have hby := Bd.bytes
  have hml : c.maxLocals = 4 := hml0
  have hown : s.vm.findClass "com/example/vigilant_consumer/vigilantconsumer/ProtocolWriter" = some m.cls := findClass_of_methodNamed Bd.named
  have hnm := (name_of_methodNamed Bd.named Bd.method).1
  have X0 : Stand p l e ({ frames := 1, cells := 0, slots := 0, locals := 13 } : Room) s m #[(.ref wr), (.long v1)] below meth c s₁ [] 0 0 := Stand.of_body Bd
  have e0 : s₁.heap = h0 := by rw [← hh, Bd.state]; rfl
  have N0 := Fr.nil n0
  have pre0 : ∀ t, Steps p.tables e below (s₁.setTop (mkF m 0 #[.val (.ref wr), .val (.long v1), .second, .unset] [])) t → Steps p.tables e below (s₁.setTop (entryFrame m #[(.ref wr), (.long v1)] 4)) t := fun t k => castTop (own_ef10 m wr v1) k
  have KP := Keep.refl h0 ([wr, bf] : List Addr)
  obtain ⟨cq1, q1, q1'⟩ := Ew.cell
  obtain ⟨_, _, ⟨T1, L1, k1, n1⟩, -, X1, ⟨Lc1, hQ1, l1, y1, z1⟩, st1⟩ := X0.privateBack hx (y := (⟨"com/example/vigilant_consumer/vigilantconsumer/ProtocolWriter", "ensure", "(I)V"⟩ : MethodName)) hown (mvT hZ (hw _ (List.mem_of_getElem? (i := 36) rfl))) (mvT hZ (hw _ (List.mem_of_getElem? (i := 37) rfl))) (own_selP (mvT hZ (hw _ (List.mem_of_getElem? (i := 2) rfl))) (mvP hZ (hw _ (List.mem_of_getElem? (i := 38) rfl))) (mvT hZ (hw _ (List.mem_of_getElem? (i := 37) rfl))) (by decide)) (Cond.privateMethod_at (mvP hZ (hw _ (List.mem_of_getElem? (i := 38) rfl)) (args := #[]))) (mvT hZ (hw _ (List.mem_of_getElem? (i := 39) rfl))) (by decide) (backOf (W := 0) (own_ensN l Z a0 hw [] wr (8 : Int32) bf kb cc zz DD h0 n0 Z0 Fb Fl Vb (own_le hz (n := (8 : Int32)) (m := 8) rfl (by have q_ := hc; omega) (by have q_ := hs; omega))) hZ (hw _ (List.mem_of_getElem? (i := 39) rfl)) (hw _ (List.mem_of_getElem? (i := 3) rfl)) (by decide) (by decide)) (g := (mkF m 3 #[.val (.ref wr), .val (.long v1), .second, .unset] [(.int (8 : Int32)), (.ref wr)])) rfl (by rw [hml]; rfl) (Steps.refl _) (a := wr) (by rw [e0]; exact q1) q1' (argsL := [(.int (8 : Int32))]) (rest := []) (lenOf own_pd0 rfl) rfl (by show 2 * 0 + _ ≤ _; exact Nat.le_of_eq rfl) (hb hby own_d10_3) (fun _ _ => ⟨rfl, e0, (by decide : 0 + 0 ≤ _), (by decide : 0 + 0 ≤ _)⟩)
  dsimp only [Pt.U, Pt.locs, Pt.cells, Pt.slots] at X1 l1 y1 z1 st1 hQ1
  subst l1 y1 z1
  obtain ⟨rfl, N1q, e1⟩ := hQ1
  have N1 := Fr.app N0 N1q
  have pre2 : ∀ t, Steps p.tables e below (T1.setTop (mkF m 9 #[.val (.ref wr), .val (.long v1), .second, .val (.int (56 : Int32))] [])) t → Steps p.tables e below (s₁.setTop (entryFrame m #[(.ref wr), (.long v1)] 4)) t := fun t k => pre0 t (by
    show Steps p.tables e below (s₁.setTop (mkF m 0 #[.val (.ref wr), .val (.long v1), .second, .unset] [])) _
    refine XS.aloadN X0.here hx rfl (hb hby own_d10_0) rfl rfl ?_
    show Steps p.tables e below (s₁.setTop (mkF m 1 #[.val (.ref wr), .val (.long v1), .second, .unset] [(.ref wr)])) _
    refine XS.bipush X0.here hx rfl (hb hby own_d10_1) ?_
    show Steps p.tables e below (s₁.setTop (mkF m 3 #[.val (.ref wr), .val (.long v1), .second, .unset] [(.int (8 : Int32)), (.ref wr)])) _
    refine st1.trans ?_
    show Steps p.tables e below (T1.setTop (mkF m 6 #[.val (.ref wr), .val (.long v1), .second, .unset] [])) _
    refine XS.bipush X1.here hx rfl (hb hby own_d10_6) ?_
    show Steps p.tables e below (T1.setTop (mkF m 8 #[.val (.ref wr), .val (.long v1), .second, .unset] [(.int (56 : Int32))])) _
    refine XS.istoreN X1.here hx rfl (hb hby own_d10_8) rfl (l' := #[.val (.ref wr), .val (.long v1), .second, .val (.int (56 : Int32))]) rfl ?_
    exact k)
  obtain ⟨LL3, X3, N3⟩ : ∃ L, Stand p l e ({ frames := 1, cells := 0, slots := 0, locals := 13 } : Room) s m #[(.ref wr), (.long v1)] below meth c T1 L 0 0 ∧ Fr n0 L := ⟨_, X1, N1⟩
  as_aux_lemma =>
    obtain ⟨T4, X4, e4, st4⟩ := getF X3 hx hZ hown (host := "") (Or.inl (hw _ (List.mem_of_getElem? (i := 10) rfl))) Via.refl e1 Fb (g := (mkF m 14 #[.val (.ref wr), .val (.long v1), .second, .val (.int (56 : Int32))] [(.ref wr)])) rfl rfl (hb hby own_d10_14)
    obtain ⟨T5, X5, e5, st5⟩ := getF X4 hx hZ hown (host := "") (Or.inl (hw _ (List.mem_of_getElem? (i := 17) rfl))) Via.refl e4 Fl (g := (mkF m 19 #[.val (.ref wr), .val (.long v1), .second, .val (.int (56 : Int32))] [(.ref wr), (.ref wr), (.ref bf)])) rfl rfl (hb hby own_d10_19)
    obtain ⟨T6, h6, X6, e6, W6, st6⟩ := putF X5 hx hZ hown (host := "") (Or.inl (hw _ (List.mem_of_getElem? (i := 17) rfl))) Via.refl e5 Fl Ew (Or.inl (hw _ (List.mem_of_getElem? (i := 18) rfl))) (hw _ (List.mem_of_getElem? (i := 2) rfl)) (ty := .int) (by decide) rfl rfl (g := (mkF m 25 #[.val (.ref wr), .val (.long v1), .second, .val (.int (56 : Int32))] [(.int (zz + (1 : Int32))), (.ref wr), (.int zz), (.ref bf)])) rfl rfl (hb hby own_d10_25)
    have ne_wr_bf : wr ≠ bf := Exa.neArv Ew Vb (hw _ (List.mem_of_getElem? (i := 2) rfl))
    have Ew := Ew.wr W6
    have Fb := Fb.other W6 (Or.inr (slot_ne (Or.inl (hw _ (List.mem_of_getElem? (i := 11) rfl))) (Or.inl (hw _ (List.mem_of_getElem? (i := 18) rfl))) (by decide) (t := (.array .byte)) (t' := .int) (by decide) (by decide)))
    have Vb := Vb.other W6 (Ne.symm ne_wr_bf)
    have Z7 : n0 ≤ h6.size := Nat.le_trans Z0 (Keep.of_wr W6).1
    have KP := KP.wr W6 (Or.inl (List.mem_of_getElem? (i := 0) rfl))
    have Fl := Fl.same W6
    have N6 := Fr.snoc X6 N3 gw
    obtain ⟨cl8, Ar8, q8, S8, M8, H8, G8⟩ := id Vb
    have hin8 : ¬ (zz < 0 ∨ cl8.slots.size ≤ (zz).toNatClampNeg) := inb_of S8 (own_ib hz (by have q_ := hc; (try simp only [List.length_append, List.length_cons, List.length_nil]); omega))
    obtain ⟨T9, h9, X9, e9, W9, st9⟩ := stB X6 hx hZ e6 Ar8 (j := zz) hin8 (g := (mkF m 33 #[.val (.ref wr), .val (.long v1), .second, .val (.int (56 : Int32))] [(.int ((((v1.toUInt64 >>> ((56 : Int32) &&& 0x3f).toInt64.toUInt64).toInt64).toInt32).toInt8.toInt32)), (.int zz), (.ref bf)])) rfl rfl (hb hby own_d10_33)
    have Ew := Ew.wr W9
    have Fb := Fb.other W9 (Or.inl ne_wr_bf)
    have Fl := Fl.other W9 (Or.inl ne_wr_bf)
    have Z10 : n0 ≤ h9.size := Nat.le_trans Z7 (Keep.of_wr W9).1
    have KP := KP.wr W9 (Or.inl (List.mem_of_getElem? (i := 1) rfl))
    have Vb : Arv Z h9 bf kb .byte cc (List.map Value.int (DD ++ [((((v1.toUInt64 >>> ((56 : Int32) &&& 0x3f).toInt64.toUInt64).toInt64).toInt32).toInt8.toInt32)])) (.int (0 : Int32)) := own_push Ar8 q8 S8 M8 H8 G8 W9 (own_ni _) hz
    have hz9 : (zz + (1 : Int32)).toInt = ((DD ++ [((((v1.toUInt64 >>> ((56 : Int32) &&& 0x3f).toInt64.toUInt64).toInt64).toInt32).toInt8.toInt32)]).length : Int) := own_hz1 hz (by have q_ := hc; have q2_ := hs; (try simp only [List.length_append, List.length_cons, List.length_nil]); omega)
    have N9 := Fr.snoc X9 N6 gb
    obtain ⟨DG9, eG9⟩ : ∃ z_, z_ = (DD ++ [((((v1.toUInt64 >>> ((56 : Int32) &&& 0x3f).toInt64.toUInt64).toInt64).toInt32).toInt8.toInt32)]) := ⟨_, rfl⟩
    rw [← eG9] at Vb hz9
    have lG9 : DG9.length = DD.length + 1 := by rw [eG9, List.length_append]; rfl
    have pre11 : ∀ t, Steps p.tables e below (T9.setTop (mkF m 9 #[.val (.ref wr), .val (.long v1), .second, .val (.int (48 : Int32))] [])) t → Steps p.tables e below (s₁.setTop (entryFrame m #[(.ref wr), (.long v1)] 4)) t := fun t k => pre2 t (by
      show Steps p.tables e below (T1.setTop (mkF m 9 #[.val (.ref wr), .val (.long v1), .second, .val (.int (56 : Int32))] [])) _
      refine XS.iloadN X3.here hx rfl (hb hby own_d10_9) rfl ?_
      show Steps p.tables e below (T1.setTop (mkF m 10 #[.val (.ref wr), .val (.long v1), .second, .val (.int (56 : Int32))] [(.int (56 : Int32))])) _
      refine XS.ifNo X3.here hx rfl (hb hby own_d10_10) rfl ((if0 _ _).trans (flt (by decide : ¬ ((56 : Int32) < (0 : Int32)))).1) ?_
      show Steps p.tables e below (T1.setTop (mkF m 13 #[.val (.ref wr), .val (.long v1), .second, .val (.int (56 : Int32))] [])) _
      refine XS.aloadN X3.here hx rfl (hb hby own_d10_13) rfl rfl ?_
      show Steps p.tables e below (T1.setTop (mkF m 14 #[.val (.ref wr), .val (.long v1), .second, .val (.int (56 : Int32))] [(.ref wr)])) _
      refine st4 _ ?_
      show Steps p.tables e below (T4.setTop (mkF m 17 #[.val (.ref wr), .val (.long v1), .second, .val (.int (56 : Int32))] [(.ref bf)])) _
      refine XS.aloadN X4.here hx rfl (hb hby own_d10_17) rfl rfl ?_
      show Steps p.tables e below (T4.setTop (mkF m 18 #[.val (.ref wr), .val (.long v1), .second, .val (.int (56 : Int32))] [(.ref wr), (.ref bf)])) _
      refine XS.dup X4.here hx rfl (hb hby own_d10_18) rfl rfl ?_
      show Steps p.tables e below (T4.setTop (mkF m 19 #[.val (.ref wr), .val (.long v1), .second, .val (.int (56 : Int32))] [(.ref wr), (.ref wr), (.ref bf)])) _
      refine st5 _ ?_
      show Steps p.tables e below (T5.setTop (mkF m 22 #[.val (.ref wr), .val (.long v1), .second, .val (.int (56 : Int32))] [(.int zz), (.ref wr), (.ref bf)])) _
      refine XS.dupX1 X5.here hx rfl (hb hby own_d10_22) rfl rfl rfl ?_
      show Steps p.tables e below (T5.setTop (mkF m 23 #[.val (.ref wr), .val (.long v1), .second, .val (.int (56 : Int32))] [(.int zz), (.ref wr), (.int zz), (.ref bf)])) _
      refine XS.iconst X5.here hx rfl (hb hby own_d10_23) ?_
      show Steps p.tables e below (T5.setTop (mkF m 24 #[.val (.ref wr), .val (.long v1), .second, .val (.int (56 : Int32))] [(.int (1 : Int32)), (.int zz), (.ref wr), (.int zz), (.ref bf)])) _
      refine XS.iadd X5.here hx rfl (hb hby own_d10_24) rfl ?_
      show Steps p.tables e below (T5.setTop (mkF m 25 #[.val (.ref wr), .val (.long v1), .second, .val (.int (56 : Int32))] [(.int (zz + (1 : Int32))), (.ref wr), (.int zz), (.ref bf)])) _
      refine st6 _ ?_
      show Steps p.tables e below (T6.setTop (mkF m 28 #[.val (.ref wr), .val (.long v1), .second, .val (.int (56 : Int32))] [(.int zz), (.ref bf)])) _
      refine XS.lloadN X6.here hx rfl (hb hby own_d10_28) rfl ?_
      show Steps p.tables e below (T6.setTop (mkF m 29 #[.val (.ref wr), .val (.long v1), .second, .val (.int (56 : Int32))] [(.long v1), (.int zz), (.ref bf)])) _
      refine XS.iloadN X6.here hx rfl (hb hby own_d10_29) rfl ?_
      show Steps p.tables e below (T6.setTop (mkF m 30 #[.val (.ref wr), .val (.long v1), .second, .val (.int (56 : Int32))] [(.int (56 : Int32)), (.long v1), (.int zz), (.ref bf)])) _
      refine XS.lushr X6.here hx rfl (hb hby own_d10_30) rfl ?_
      show Steps p.tables e below (T6.setTop (mkF m 31 #[.val (.ref wr), .val (.long v1), .second, .val (.int (56 : Int32))] [(.long ((v1.toUInt64 >>> ((56 : Int32) &&& 0x3f).toInt64.toUInt64).toInt64)), (.int zz), (.ref bf)])) _
      refine XS.l2i X6.here hx rfl (hb hby own_d10_31) rfl ?_
      show Steps p.tables e below (T6.setTop (mkF m 32 #[.val (.ref wr), .val (.long v1), .second, .val (.int (56 : Int32))] [(.int (((v1.toUInt64 >>> ((56 : Int32) &&& 0x3f).toInt64.toUInt64).toInt64).toInt32)), (.int zz), (.ref bf)])) _
      refine XS.i2b X6.here hx rfl (hb hby own_d10_32) rfl ?_
      show Steps p.tables e below (T6.setTop (mkF m 33 #[.val (.ref wr), .val (.long v1), .second, .val (.int (56 : Int32))] [(.int ((((v1.toUInt64 >>> ((56 : Int32) &&& 0x3f).toInt64.toUInt64).toInt64).toInt32).toInt8.toInt32)), (.int zz), (.ref bf)])) _
      refine st9 _ ?_
      show Steps p.tables e below (T9.setTop (mkF m 34 #[.val (.ref wr), .val (.long v1), .second, .val (.int (56 : Int32))] [])) _
      refine XS.iinc X9.here hx rfl (hb hby own_d10_34) rfl (l' := #[.val (.ref wr), .val (.long v1), .second, .val (.int (48 : Int32))]) rfl ?_
      show Steps p.tables e below (T9.setTop (mkF m 37 #[.val (.ref wr), .val (.long v1), .second, .val (.int (48 : Int32))] [])) _
      refine XS.goto X9.here hx rfl (pc0 := 37) (pc' := 9) rfl (hb hby own_d10_37) (by decide) (by decide) ?_
      exact k)
    obtain ⟨LL12, X12, N12⟩ : ∃ L, Stand p l e ({ frames := 1, cells := 0, slots := 0, locals := 13 } : Room) s m #[(.ref wr), (.long v1)] below meth c T9 L 0 0 ∧ Fr n0 L := ⟨_, X9, N9⟩
    as_aux_lemma =>
      obtain ⟨T13, X13, e13, st13⟩ := getF X12 hx hZ hown (host := "") (Or.inl (hw _ (List.mem_of_getElem? (i := 10) rfl))) Via.refl e9 Fb (g := (mkF m 14 #[.val (.ref wr), .val (.long v1), .second, .val (.int (48 : Int32))] [(.ref wr)])) rfl rfl (hb hby own_d10_14)
      obtain ⟨T14, X14, e14, st14⟩ := getF X13 hx hZ hown (host := "") (Or.inl (hw _ (List.mem_of_getElem? (i := 17) rfl))) Via.refl e13 Fl (g := (mkF m 19 #[.val (.ref wr), .val (.long v1), .second, .val (.int (48 : Int32))] [(.ref wr), (.ref wr), (.ref bf)])) rfl rfl (hb hby own_d10_19)
      obtain ⟨T15, h15, X15, e15, W15, st15⟩ := putF X14 hx hZ hown (host := "") (Or.inl (hw _ (List.mem_of_getElem? (i := 17) rfl))) Via.refl e14 Fl Ew (Or.inl (hw _ (List.mem_of_getElem? (i := 18) rfl))) (hw _ (List.mem_of_getElem? (i := 2) rfl)) (ty := .int) (by decide) rfl rfl (g := (mkF m 25 #[.val (.ref wr), .val (.long v1), .second, .val (.int (48 : Int32))] [(.int ((zz + (1 : Int32)) + (1 : Int32))), (.ref wr), (.int (zz + (1 : Int32))), (.ref bf)])) rfl rfl (hb hby own_d10_25)
      have Ew := Ew.wr W15
      have Fb := Fb.other W15 (Or.inr (slot_ne (Or.inl (hw _ (List.mem_of_getElem? (i := 11) rfl))) (Or.inl (hw _ (List.mem_of_getElem? (i := 18) rfl))) (by decide) (t := (.array .byte)) (t' := .int) (by decide) (by decide)))
      have Vb := Vb.other W15 (Ne.symm ne_wr_bf)
      have Z16 : n0 ≤ h15.size := Nat.le_trans Z10 (Keep.of_wr W15).1
      have KP := KP.wr W15 (Or.inl (List.mem_of_getElem? (i := 0) rfl))
      have Fl := Fl.same W15
      have N15 := Fr.snoc X15 N12 gw
      obtain ⟨cl17, Ar17, q17, S17, M17, H17, G17⟩ := id Vb
      have hin17 : ¬ ((zz + (1 : Int32)) < 0 ∨ cl17.slots.size ≤ ((zz + (1 : Int32))).toNatClampNeg) := inb_of S17 (own_ib hz9 (by have q_ := hc; (try simp only [List.length_append, List.length_cons, List.length_nil]); omega))
      obtain ⟨T18, h18, X18, e18, W18, st18⟩ := stB X15 hx hZ e15 Ar17 (j := (zz + (1 : Int32))) hin17 (g := (mkF m 33 #[.val (.ref wr), .val (.long v1), .second, .val (.int (48 : Int32))] [(.int ((((v1.toUInt64 >>> ((48 : Int32) &&& 0x3f).toInt64.toUInt64).toInt64).toInt32).toInt8.toInt32)), (.int (zz + (1 : Int32))), (.ref bf)])) rfl rfl (hb hby own_d10_33)
      have Ew := Ew.wr W18
      have Fb := Fb.other W18 (Or.inl ne_wr_bf)
      have Fl := Fl.other W18 (Or.inl ne_wr_bf)
      have Z19 : n0 ≤ h18.size := Nat.le_trans Z16 (Keep.of_wr W18).1
      have KP := KP.wr W18 (Or.inl (List.mem_of_getElem? (i := 1) rfl))
      have Vb : Arv Z h18 bf kb .byte cc (List.map Value.int (DG9 ++ [((((v1.toUInt64 >>> ((48 : Int32) &&& 0x3f).toInt64.toUInt64).toInt64).toInt32).toInt8.toInt32)])) (.int (0 : Int32)) := own_push Ar17 q17 S17 M17 H17 G17 W18 (own_ni _) hz9
      have hz18 : ((zz + (1 : Int32)) + (1 : Int32)).toInt = ((DG9 ++ [((((v1.toUInt64 >>> ((48 : Int32) &&& 0x3f).toInt64.toUInt64).toInt64).toInt32).toInt8.toInt32)]).length : Int) := own_hz1 hz9 (by have q_ := hc; have q2_ := hs; (try simp only [List.length_append, List.length_cons, List.length_nil]); omega)
      have N18 := Fr.snoc X18 N15 gb
      obtain ⟨DG18, eG18⟩ : ∃ z_, z_ = (DG9 ++ [((((v1.toUInt64 >>> ((48 : Int32) &&& 0x3f).toInt64.toUInt64).toInt64).toInt32).toInt8.toInt32)]) := ⟨_, rfl⟩
      rw [← eG18] at Vb hz18
      have lG18 : DG18.length = DG9.length + 1 := by rw [eG18, List.length_append]; rfl
      have pre20 : ∀ t, Steps p.tables e below (T18.setTop (mkF m 9 #[.val (.ref wr), .val (.long v1), .second, .val (.int (40 : Int32))] [])) t → Steps p.tables e below (s₁.setTop (entryFrame m #[(.ref wr), (.long v1)] 4)) t := fun t k => pre11 t (by
        show Steps p.tables e below (T9.setTop (mkF m 9 #[.val (.ref wr), .val (.long v1), .second, .val (.int (48 : Int32))] [])) _
        refine XS.iloadN X12.here hx rfl (hb hby own_d10_9) rfl ?_
        show Steps p.tables e below (T9.setTop (mkF m 10 #[.val (.ref wr), .val (.long v1), .second, .val (.int (48 : Int32))] [(.int (48 : Int32))])) _
        refine XS.ifNo X12.here hx rfl (hb hby own_d10_10) rfl ((if0 _ _).trans (flt (by decide : ¬ ((48 : Int32) < (0 : Int32)))).1) ?_
        show Steps p.tables e below (T9.setTop (mkF m 13 #[.val (.ref wr), .val (.long v1), .second, .val (.int (48 : Int32))] [])) _
        refine XS.aloadN X12.here hx rfl (hb hby own_d10_13) rfl rfl ?_
        show Steps p.tables e below (T9.setTop (mkF m 14 #[.val (.ref wr), .val (.long v1), .second, .val (.int (48 : Int32))] [(.ref wr)])) _
        refine st13 _ ?_
        show Steps p.tables e below (T13.setTop (mkF m 17 #[.val (.ref wr), .val (.long v1), .second, .val (.int (48 : Int32))] [(.ref bf)])) _
        refine XS.aloadN X13.here hx rfl (hb hby own_d10_17) rfl rfl ?_
        show Steps p.tables e below (T13.setTop (mkF m 18 #[.val (.ref wr), .val (.long v1), .second, .val (.int (48 : Int32))] [(.ref wr), (.ref bf)])) _
        refine XS.dup X13.here hx rfl (hb hby own_d10_18) rfl rfl ?_
        show Steps p.tables e below (T13.setTop (mkF m 19 #[.val (.ref wr), .val (.long v1), .second, .val (.int (48 : Int32))] [(.ref wr), (.ref wr), (.ref bf)])) _
        refine st14 _ ?_
        show Steps p.tables e below (T14.setTop (mkF m 22 #[.val (.ref wr), .val (.long v1), .second, .val (.int (48 : Int32))] [(.int (zz + (1 : Int32))), (.ref wr), (.ref bf)])) _
        refine XS.dupX1 X14.here hx rfl (hb hby own_d10_22) rfl rfl rfl ?_
        show Steps p.tables e below (T14.setTop (mkF m 23 #[.val (.ref wr), .val (.long v1), .second, .val (.int (48 : Int32))] [(.int (zz + (1 : Int32))), (.ref wr), (.int (zz + (1 : Int32))), (.ref bf)])) _
        refine XS.iconst X14.here hx rfl (hb hby own_d10_23) ?_
        show Steps p.tables e below (T14.setTop (mkF m 24 #[.val (.ref wr), .val (.long v1), .second, .val (.int (48 : Int32))] [(.int (1 : Int32)), (.int (zz + (1 : Int32))), (.ref wr), (.int (zz + (1 : Int32))), (.ref bf)])) _
        refine XS.iadd X14.here hx rfl (hb hby own_d10_24) rfl ?_
        show Steps p.tables e below (T14.setTop (mkF m 25 #[.val (.ref wr), .val (.long v1), .second, .val (.int (48 : Int32))] [(.int ((zz + (1 : Int32)) + (1 : Int32))), (.ref wr), (.int (zz + (1 : Int32))), (.ref bf)])) _
        refine st15 _ ?_
        show Steps p.tables e below (T15.setTop (mkF m 28 #[.val (.ref wr), .val (.long v1), .second, .val (.int (48 : Int32))] [(.int (zz + (1 : Int32))), (.ref bf)])) _
        refine XS.lloadN X15.here hx rfl (hb hby own_d10_28) rfl ?_
        show Steps p.tables e below (T15.setTop (mkF m 29 #[.val (.ref wr), .val (.long v1), .second, .val (.int (48 : Int32))] [(.long v1), (.int (zz + (1 : Int32))), (.ref bf)])) _
        refine XS.iloadN X15.here hx rfl (hb hby own_d10_29) rfl ?_
        show Steps p.tables e below (T15.setTop (mkF m 30 #[.val (.ref wr), .val (.long v1), .second, .val (.int (48 : Int32))] [(.int (48 : Int32)), (.long v1), (.int (zz + (1 : Int32))), (.ref bf)])) _
        refine XS.lushr X15.here hx rfl (hb hby own_d10_30) rfl ?_
        show Steps p.tables e below (T15.setTop (mkF m 31 #[.val (.ref wr), .val (.long v1), .second, .val (.int (48 : Int32))] [(.long ((v1.toUInt64 >>> ((48 : Int32) &&& 0x3f).toInt64.toUInt64).toInt64)), (.int (zz + (1 : Int32))), (.ref bf)])) _
        refine XS.l2i X15.here hx rfl (hb hby own_d10_31) rfl ?_
        show Steps p.tables e below (T15.setTop (mkF m 32 #[.val (.ref wr), .val (.long v1), .second, .val (.int (48 : Int32))] [(.int (((v1.toUInt64 >>> ((48 : Int32) &&& 0x3f).toInt64.toUInt64).toInt64).toInt32)), (.int (zz + (1 : Int32))), (.ref bf)])) _
        refine XS.i2b X15.here hx rfl (hb hby own_d10_32) rfl ?_
        show Steps p.tables e below (T15.setTop (mkF m 33 #[.val (.ref wr), .val (.long v1), .second, .val (.int (48 : Int32))] [(.int ((((v1.toUInt64 >>> ((48 : Int32) &&& 0x3f).toInt64.toUInt64).toInt64).toInt32).toInt8.toInt32)), (.int (zz + (1 : Int32))), (.ref bf)])) _
        refine st18 _ ?_
        show Steps p.tables e below (T18.setTop (mkF m 34 #[.val (.ref wr), .val (.long v1), .second, .val (.int (48 : Int32))] [])) _
        refine XS.iinc X18.here hx rfl (hb hby own_d10_34) rfl (l' := #[.val (.ref wr), .val (.long v1), .second, .val (.int (40 : Int32))]) rfl ?_
        show Steps p.tables e below (T18.setTop (mkF m 37 #[.val (.ref wr), .val (.long v1), .second, .val (.int (40 : Int32))] [])) _
        refine XS.goto X18.here hx rfl (pc0 := 37) (pc' := 9) rfl (hb hby own_d10_37) (by decide) (by decide) ?_
        exact k)
      obtain ⟨LL21, X21, N21⟩ : ∃ L, Stand p l e ({ frames := 1, cells := 0, slots := 0, locals := 13 } : Room) s m #[(.ref wr), (.long v1)] below meth c T18 L 0 0 ∧ Fr n0 L := ⟨_, X18, N18⟩
      as_aux_lemma =>
        obtain ⟨T22, X22, e22, st22⟩ := getF X21 hx hZ hown (host := "") (Or.inl (hw _ (List.mem_of_getElem? (i := 10) rfl))) Via.refl e18 Fb (g := (mkF m 14 #[.val (.ref wr), .val (.long v1), .second, .val (.int (40 : Int32))] [(.ref wr)])) rfl rfl (hb hby own_d10_14)
        obtain ⟨T23, X23, e23, st23⟩ := getF X22 hx hZ hown (host := "") (Or.inl (hw _ (List.mem_of_getElem? (i := 17) rfl))) Via.refl e22 Fl (g := (mkF m 19 #[.val (.ref wr), .val (.long v1), .second, .val (.int (40 : Int32))] [(.ref wr), (.ref wr), (.ref bf)])) rfl rfl (hb hby own_d10_19)
        obtain ⟨T24, h24, X24, e24, W24, st24⟩ := putF X23 hx hZ hown (host := "") (Or.inl (hw _ (List.mem_of_getElem? (i := 17) rfl))) Via.refl e23 Fl Ew (Or.inl (hw _ (List.mem_of_getElem? (i := 18) rfl))) (hw _ (List.mem_of_getElem? (i := 2) rfl)) (ty := .int) (by decide) rfl rfl (g := (mkF m 25 #[.val (.ref wr), .val (.long v1), .second, .val (.int (40 : Int32))] [(.int (((zz + (1 : Int32)) + (1 : Int32)) + (1 : Int32))), (.ref wr), (.int ((zz + (1 : Int32)) + (1 : Int32))), (.ref bf)])) rfl rfl (hb hby own_d10_25)
        have Ew := Ew.wr W24
        have Fb := Fb.other W24 (Or.inr (slot_ne (Or.inl (hw _ (List.mem_of_getElem? (i := 11) rfl))) (Or.inl (hw _ (List.mem_of_getElem? (i := 18) rfl))) (by decide) (t := (.array .byte)) (t' := .int) (by decide) (by decide)))
        have Vb := Vb.other W24 (Ne.symm ne_wr_bf)
        have Z25 : n0 ≤ h24.size := Nat.le_trans Z19 (Keep.of_wr W24).1
        have KP := KP.wr W24 (Or.inl (List.mem_of_getElem? (i := 0) rfl))
        have Fl := Fl.same W24
        have N24 := Fr.snoc X24 N21 gw
        obtain ⟨cl26, Ar26, q26, S26, M26, H26, G26⟩ := id Vb
        have hin26 : ¬ (((zz + (1 : Int32)) + (1 : Int32)) < 0 ∨ cl26.slots.size ≤ (((zz + (1 : Int32)) + (1 : Int32))).toNatClampNeg) := inb_of S26 (own_ib hz18 (by have q_ := hc; (try simp only [List.length_append, List.length_cons, List.length_nil]); omega))
        obtain ⟨T27, h27, X27, e27, W27, st27⟩ := stB X24 hx hZ e24 Ar26 (j := ((zz + (1 : Int32)) + (1 : Int32))) hin26 (g := (mkF m 33 #[.val (.ref wr), .val (.long v1), .second, .val (.int (40 : Int32))] [(.int ((((v1.toUInt64 >>> ((40 : Int32) &&& 0x3f).toInt64.toUInt64).toInt64).toInt32).toInt8.toInt32)), (.int ((zz + (1 : Int32)) + (1 : Int32))), (.ref bf)])) rfl rfl (hb hby own_d10_33)
        have Ew := Ew.wr W27
        have Fb := Fb.other W27 (Or.inl ne_wr_bf)
        have Fl := Fl.other W27 (Or.inl ne_wr_bf)
        have Z28 : n0 ≤ h27.size := Nat.le_trans Z25 (Keep.of_wr W27).1
        have KP := KP.wr W27 (Or.inl (List.mem_of_getElem? (i := 1) rfl))
        have Vb : Arv Z h27 bf kb .byte cc (List.map Value.int (DG18 ++ [((((v1.toUInt64 >>> ((40 : Int32) &&& 0x3f).toInt64.toUInt64).toInt64).toInt32).toInt8.toInt32)])) (.int (0 : Int32)) := own_push Ar26 q26 S26 M26 H26 G26 W27 (own_ni _) hz18
        have hz27 : (((zz + (1 : Int32)) + (1 : Int32)) + (1 : Int32)).toInt = ((DG18 ++ [((((v1.toUInt64 >>> ((40 : Int32) &&& 0x3f).toInt64.toUInt64).toInt64).toInt32).toInt8.toInt32)]).length : Int) := own_hz1 hz18 (by have q_ := hc; have q2_ := hs; (try simp only [List.length_append, List.length_cons, List.length_nil]); omega)
        have N27 := Fr.snoc X27 N24 gb
        obtain ⟨DG27, eG27⟩ : ∃ z_, z_ = (DG18 ++ [((((v1.toUInt64 >>> ((40 : Int32) &&& 0x3f).toInt64.toUInt64).toInt64).toInt32).toInt8.toInt32)]) := ⟨_, rfl⟩
        rw [← eG27] at Vb hz27
        have lG27 : DG27.length = DG18.length + 1 := by rw [eG27, List.length_append]; rfl
        have pre29 : ∀ t, Steps p.tables e below (T27.setTop (mkF m 9 #[.val (.ref wr), .val (.long v1), .second, .val (.int (32 : Int32))] [])) t → Steps p.tables e below (s₁.setTop (entryFrame m #[(.ref wr), (.long v1)] 4)) t := fun t k => pre20 t (by
          show Steps p.tables e below (T18.setTop (mkF m 9 #[.val (.ref wr), .val (.long v1), .second, .val (.int (40 : Int32))] [])) _
          refine XS.iloadN X21.here hx rfl (hb hby own_d10_9) rfl ?_
          show Steps p.tables e below (T18.setTop (mkF m 10 #[.val (.ref wr), .val (.long v1), .second, .val (.int (40 : Int32))] [(.int (40 : Int32))])) _
          refine XS.ifNo X21.here hx rfl (hb hby own_d10_10) rfl ((if0 _ _).trans (flt (by decide : ¬ ((40 : Int32) < (0 : Int32)))).1) ?_
          show Steps p.tables e below (T18.setTop (mkF m 13 #[.val (.ref wr), .val (.long v1), .second, .val (.int (40 : Int32))] [])) _
          refine XS.aloadN X21.here hx rfl (hb hby own_d10_13) rfl rfl ?_
          show Steps p.tables e below (T18.setTop (mkF m 14 #[.val (.ref wr), .val (.long v1), .second, .val (.int (40 : Int32))] [(.ref wr)])) _
          refine st22 _ ?_
          show Steps p.tables e below (T22.setTop (mkF m 17 #[.val (.ref wr), .val (.long v1), .second, .val (.int (40 : Int32))] [(.ref bf)])) _
          refine XS.aloadN X22.here hx rfl (hb hby own_d10_17) rfl rfl ?_
          show Steps p.tables e below (T22.setTop (mkF m 18 #[.val (.ref wr), .val (.long v1), .second, .val (.int (40 : Int32))] [(.ref wr), (.ref bf)])) _
          refine XS.dup X22.here hx rfl (hb hby own_d10_18) rfl rfl ?_
          show Steps p.tables e below (T22.setTop (mkF m 19 #[.val (.ref wr), .val (.long v1), .second, .val (.int (40 : Int32))] [(.ref wr), (.ref wr), (.ref bf)])) _
          refine st23 _ ?_
          show Steps p.tables e below (T23.setTop (mkF m 22 #[.val (.ref wr), .val (.long v1), .second, .val (.int (40 : Int32))] [(.int ((zz + (1 : Int32)) + (1 : Int32))), (.ref wr), (.ref bf)])) _
          refine XS.dupX1 X23.here hx rfl (hb hby own_d10_22) rfl rfl rfl ?_
          show Steps p.tables e below (T23.setTop (mkF m 23 #[.val (.ref wr), .val (.long v1), .second, .val (.int (40 : Int32))] [(.int ((zz + (1 : Int32)) + (1 : Int32))), (.ref wr), (.int ((zz + (1 : Int32)) + (1 : Int32))), (.ref bf)])) _
          refine XS.iconst X23.here hx rfl (hb hby own_d10_23) ?_
          show Steps p.tables e below (T23.setTop (mkF m 24 #[.val (.ref wr), .val (.long v1), .second, .val (.int (40 : Int32))] [(.int (1 : Int32)), (.int ((zz + (1 : Int32)) + (1 : Int32))), (.ref wr), (.int ((zz + (1 : Int32)) + (1 : Int32))), (.ref bf)])) _
          refine XS.iadd X23.here hx rfl (hb hby own_d10_24) rfl ?_
          show Steps p.tables e below (T23.setTop (mkF m 25 #[.val (.ref wr), .val (.long v1), .second, .val (.int (40 : Int32))] [(.int (((zz + (1 : Int32)) + (1 : Int32)) + (1 : Int32))), (.ref wr), (.int ((zz + (1 : Int32)) + (1 : Int32))), (.ref bf)])) _
          refine st24 _ ?_
          show Steps p.tables e below (T24.setTop (mkF m 28 #[.val (.ref wr), .val (.long v1), .second, .val (.int (40 : Int32))] [(.int ((zz + (1 : Int32)) + (1 : Int32))), (.ref bf)])) _
          refine XS.lloadN X24.here hx rfl (hb hby own_d10_28) rfl ?_
          show Steps p.tables e below (T24.setTop (mkF m 29 #[.val (.ref wr), .val (.long v1), .second, .val (.int (40 : Int32))] [(.long v1), (.int ((zz + (1 : Int32)) + (1 : Int32))), (.ref bf)])) _
          refine XS.iloadN X24.here hx rfl (hb hby own_d10_29) rfl ?_
          show Steps p.tables e below (T24.setTop (mkF m 30 #[.val (.ref wr), .val (.long v1), .second, .val (.int (40 : Int32))] [(.int (40 : Int32)), (.long v1), (.int ((zz + (1 : Int32)) + (1 : Int32))), (.ref bf)])) _
          refine XS.lushr X24.here hx rfl (hb hby own_d10_30) rfl ?_
          show Steps p.tables e below (T24.setTop (mkF m 31 #[.val (.ref wr), .val (.long v1), .second, .val (.int (40 : Int32))] [(.long ((v1.toUInt64 >>> ((40 : Int32) &&& 0x3f).toInt64.toUInt64).toInt64)), (.int ((zz + (1 : Int32)) + (1 : Int32))), (.ref bf)])) _
          refine XS.l2i X24.here hx rfl (hb hby own_d10_31) rfl ?_
          show Steps p.tables e below (T24.setTop (mkF m 32 #[.val (.ref wr), .val (.long v1), .second, .val (.int (40 : Int32))] [(.int (((v1.toUInt64 >>> ((40 : Int32) &&& 0x3f).toInt64.toUInt64).toInt64).toInt32)), (.int ((zz + (1 : Int32)) + (1 : Int32))), (.ref bf)])) _
          refine XS.i2b X24.here hx rfl (hb hby own_d10_32) rfl ?_
          show Steps p.tables e below (T24.setTop (mkF m 33 #[.val (.ref wr), .val (.long v1), .second, .val (.int (40 : Int32))] [(.int ((((v1.toUInt64 >>> ((40 : Int32) &&& 0x3f).toInt64.toUInt64).toInt64).toInt32).toInt8.toInt32)), (.int ((zz + (1 : Int32)) + (1 : Int32))), (.ref bf)])) _
          refine st27 _ ?_
          show Steps p.tables e below (T27.setTop (mkF m 34 #[.val (.ref wr), .val (.long v1), .second, .val (.int (40 : Int32))] [])) _
          refine XS.iinc X27.here hx rfl (hb hby own_d10_34) rfl (l' := #[.val (.ref wr), .val (.long v1), .second, .val (.int (32 : Int32))]) rfl ?_
          show Steps p.tables e below (T27.setTop (mkF m 37 #[.val (.ref wr), .val (.long v1), .second, .val (.int (32 : Int32))] [])) _
          refine XS.goto X27.here hx rfl (pc0 := 37) (pc' := 9) rfl (hb hby own_d10_37) (by decide) (by decide) ?_
          exact k)
        obtain ⟨LL30, X30, N30⟩ : ∃ L, Stand p l e ({ frames := 1, cells := 0, slots := 0, locals := 13 } : Room) s m #[(.ref wr), (.long v1)] below meth c T27 L 0 0 ∧ Fr n0 L := ⟨_, X27, N27⟩
        as_aux_lemma =>
          obtain ⟨T31, X31, e31, st31⟩ := getF X30 hx hZ hown (host := "") (Or.inl (hw _ (List.mem_of_getElem? (i := 10) rfl))) Via.refl e27 Fb (g := (mkF m 14 #[.val (.ref wr), .val (.long v1), .second, .val (.int (32 : Int32))] [(.ref wr)])) rfl rfl (hb hby own_d10_14)
          obtain ⟨T32, X32, e32, st32⟩ := getF X31 hx hZ hown (host := "") (Or.inl (hw _ (List.mem_of_getElem? (i := 17) rfl))) Via.refl e31 Fl (g := (mkF m 19 #[.val (.ref wr), .val (.long v1), .second, .val (.int (32 : Int32))] [(.ref wr), (.ref wr), (.ref bf)])) rfl rfl (hb hby own_d10_19)
          obtain ⟨T33, h33, X33, e33, W33, st33⟩ := putF X32 hx hZ hown (host := "") (Or.inl (hw _ (List.mem_of_getElem? (i := 17) rfl))) Via.refl e32 Fl Ew (Or.inl (hw _ (List.mem_of_getElem? (i := 18) rfl))) (hw _ (List.mem_of_getElem? (i := 2) rfl)) (ty := .int) (by decide) rfl rfl (g := (mkF m 25 #[.val (.ref wr), .val (.long v1), .second, .val (.int (32 : Int32))] [(.int ((((zz + (1 : Int32)) + (1 : Int32)) + (1 : Int32)) + (1 : Int32))), (.ref wr), (.int (((zz + (1 : Int32)) + (1 : Int32)) + (1 : Int32))), (.ref bf)])) rfl rfl (hb hby own_d10_25)
          have Ew := Ew.wr W33
          have Fb := Fb.other W33 (Or.inr (slot_ne (Or.inl (hw _ (List.mem_of_getElem? (i := 11) rfl))) (Or.inl (hw _ (List.mem_of_getElem? (i := 18) rfl))) (by decide) (t := (.array .byte)) (t' := .int) (by decide) (by decide)))
          have Vb := Vb.other W33 (Ne.symm ne_wr_bf)
          have Z34 : n0 ≤ h33.size := Nat.le_trans Z28 (Keep.of_wr W33).1
          have KP := KP.wr W33 (Or.inl (List.mem_of_getElem? (i := 0) rfl))
          have Fl := Fl.same W33
          have N33 := Fr.snoc X33 N30 gw
          obtain ⟨cl35, Ar35, q35, S35, M35, H35, G35⟩ := id Vb
          have hin35 : ¬ ((((zz + (1 : Int32)) + (1 : Int32)) + (1 : Int32)) < 0 ∨ cl35.slots.size ≤ ((((zz + (1 : Int32)) + (1 : Int32)) + (1 : Int32))).toNatClampNeg) := inb_of S35 (own_ib hz27 (by have q_ := hc; (try simp only [List.length_append, List.length_cons, List.length_nil]); omega))
          obtain ⟨T36, h36, X36, e36, W36, st36⟩ := stB X33 hx hZ e33 Ar35 (j := (((zz + (1 : Int32)) + (1 : Int32)) + (1 : Int32))) hin35 (g := (mkF m 33 #[.val (.ref wr), .val (.long v1), .second, .val (.int (32 : Int32))] [(.int ((((v1.toUInt64 >>> ((32 : Int32) &&& 0x3f).toInt64.toUInt64).toInt64).toInt32).toInt8.toInt32)), (.int (((zz + (1 : Int32)) + (1 : Int32)) + (1 : Int32))), (.ref bf)])) rfl rfl (hb hby own_d10_33)
          have Ew := Ew.wr W36
          have Fb := Fb.other W36 (Or.inl ne_wr_bf)
          have Fl := Fl.other W36 (Or.inl ne_wr_bf)
          have Z37 : n0 ≤ h36.size := Nat.le_trans Z34 (Keep.of_wr W36).1
          have KP := KP.wr W36 (Or.inl (List.mem_of_getElem? (i := 1) rfl))
          have Vb : Arv Z h36 bf kb .byte cc (List.map Value.int (DG27 ++ [((((v1.toUInt64 >>> ((32 : Int32) &&& 0x3f).toInt64.toUInt64).toInt64).toInt32).toInt8.toInt32)])) (.int (0 : Int32)) := own_push Ar35 q35 S35 M35 H35 G35 W36 (own_ni _) hz27
          have hz36 : ((((zz + (1 : Int32)) + (1 : Int32)) + (1 : Int32)) + (1 : Int32)).toInt = ((DG27 ++ [((((v1.toUInt64 >>> ((32 : Int32) &&& 0x3f).toInt64.toUInt64).toInt64).toInt32).toInt8.toInt32)]).length : Int) := own_hz1 hz27 (by have q_ := hc; have q2_ := hs; (try simp only [List.length_append, List.length_cons, List.length_nil]); omega)
          have N36 := Fr.snoc X36 N33 gb
          obtain ⟨DG36, eG36⟩ : ∃ z_, z_ = (DG27 ++ [((((v1.toUInt64 >>> ((32 : Int32) &&& 0x3f).toInt64.toUInt64).toInt64).toInt32).toInt8.toInt32)]) := ⟨_, rfl⟩
          rw [← eG36] at Vb hz36
          have lG36 : DG36.length = DG27.length + 1 := by rw [eG36, List.length_append]; rfl
          have pre38 : ∀ t, Steps p.tables e below (T36.setTop (mkF m 9 #[.val (.ref wr), .val (.long v1), .second, .val (.int (24 : Int32))] [])) t → Steps p.tables e below (s₁.setTop (entryFrame m #[(.ref wr), (.long v1)] 4)) t := fun t k => pre29 t (by
            show Steps p.tables e below (T27.setTop (mkF m 9 #[.val (.ref wr), .val (.long v1), .second, .val (.int (32 : Int32))] [])) _
            refine XS.iloadN X30.here hx rfl (hb hby own_d10_9) rfl ?_
            show Steps p.tables e below (T27.setTop (mkF m 10 #[.val (.ref wr), .val (.long v1), .second, .val (.int (32 : Int32))] [(.int (32 : Int32))])) _
            refine XS.ifNo X30.here hx rfl (hb hby own_d10_10) rfl ((if0 _ _).trans (flt (by decide : ¬ ((32 : Int32) < (0 : Int32)))).1) ?_
            show Steps p.tables e below (T27.setTop (mkF m 13 #[.val (.ref wr), .val (.long v1), .second, .val (.int (32 : Int32))] [])) _
            refine XS.aloadN X30.here hx rfl (hb hby own_d10_13) rfl rfl ?_
            show Steps p.tables e below (T27.setTop (mkF m 14 #[.val (.ref wr), .val (.long v1), .second, .val (.int (32 : Int32))] [(.ref wr)])) _
            refine st31 _ ?_
            show Steps p.tables e below (T31.setTop (mkF m 17 #[.val (.ref wr), .val (.long v1), .second, .val (.int (32 : Int32))] [(.ref bf)])) _
            refine XS.aloadN X31.here hx rfl (hb hby own_d10_17) rfl rfl ?_
            show Steps p.tables e below (T31.setTop (mkF m 18 #[.val (.ref wr), .val (.long v1), .second, .val (.int (32 : Int32))] [(.ref wr), (.ref bf)])) _
            refine XS.dup X31.here hx rfl (hb hby own_d10_18) rfl rfl ?_
            show Steps p.tables e below (T31.setTop (mkF m 19 #[.val (.ref wr), .val (.long v1), .second, .val (.int (32 : Int32))] [(.ref wr), (.ref wr), (.ref bf)])) _
            refine st32 _ ?_
            show Steps p.tables e below (T32.setTop (mkF m 22 #[.val (.ref wr), .val (.long v1), .second, .val (.int (32 : Int32))] [(.int (((zz + (1 : Int32)) + (1 : Int32)) + (1 : Int32))), (.ref wr), (.ref bf)])) _
            refine XS.dupX1 X32.here hx rfl (hb hby own_d10_22) rfl rfl rfl ?_
            show Steps p.tables e below (T32.setTop (mkF m 23 #[.val (.ref wr), .val (.long v1), .second, .val (.int (32 : Int32))] [(.int (((zz + (1 : Int32)) + (1 : Int32)) + (1 : Int32))), (.ref wr), (.int (((zz + (1 : Int32)) + (1 : Int32)) + (1 : Int32))), (.ref bf)])) _
            refine XS.iconst X32.here hx rfl (hb hby own_d10_23) ?_
            show Steps p.tables e below (T32.setTop (mkF m 24 #[.val (.ref wr), .val (.long v1), .second, .val (.int (32 : Int32))] [(.int (1 : Int32)), (.int (((zz + (1 : Int32)) + (1 : Int32)) + (1 : Int32))), (.ref wr), (.int (((zz + (1 : Int32)) + (1 : Int32)) + (1 : Int32))), (.ref bf)])) _
            refine XS.iadd X32.here hx rfl (hb hby own_d10_24) rfl ?_
            show Steps p.tables e below (T32.setTop (mkF m 25 #[.val (.ref wr), .val (.long v1), .second, .val (.int (32 : Int32))] [(.int ((((zz + (1 : Int32)) + (1 : Int32)) + (1 : Int32)) + (1 : Int32))), (.ref wr), (.int (((zz + (1 : Int32)) + (1 : Int32)) + (1 : Int32))), (.ref bf)])) _
            refine st33 _ ?_
            show Steps p.tables e below (T33.setTop (mkF m 28 #[.val (.ref wr), .val (.long v1), .second, .val (.int (32 : Int32))] [(.int (((zz + (1 : Int32)) + (1 : Int32)) + (1 : Int32))), (.ref bf)])) _
            refine XS.lloadN X33.here hx rfl (hb hby own_d10_28) rfl ?_
            show Steps p.tables e below (T33.setTop (mkF m 29 #[.val (.ref wr), .val (.long v1), .second, .val (.int (32 : Int32))] [(.long v1), (.int (((zz + (1 : Int32)) + (1 : Int32)) + (1 : Int32))), (.ref bf)])) _
            refine XS.iloadN X33.here hx rfl (hb hby own_d10_29) rfl ?_
            show Steps p.tables e below (T33.setTop (mkF m 30 #[.val (.ref wr), .val (.long v1), .second, .val (.int (32 : Int32))] [(.int (32 : Int32)), (.long v1), (.int (((zz + (1 : Int32)) + (1 : Int32)) + (1 : Int32))), (.ref bf)])) _
            refine XS.lushr X33.here hx rfl (hb hby own_d10_30) rfl ?_
            show Steps p.tables e below (T33.setTop (mkF m 31 #[.val (.ref wr), .val (.long v1), .second, .val (.int (32 : Int32))] [(.long ((v1.toUInt64 >>> ((32 : Int32) &&& 0x3f).toInt64.toUInt64).toInt64)), (.int (((zz + (1 : Int32)) + (1 : Int32)) + (1 : Int32))), (.ref bf)])) _
            refine XS.l2i X33.here hx rfl (hb hby own_d10_31) rfl ?_
            show Steps p.tables e below (T33.setTop (mkF m 32 #[.val (.ref wr), .val (.long v1), .second, .val (.int (32 : Int32))] [(.int (((v1.toUInt64 >>> ((32 : Int32) &&& 0x3f).toInt64.toUInt64).toInt64).toInt32)), (.int (((zz + (1 : Int32)) + (1 : Int32)) + (1 : Int32))), (.ref bf)])) _
            refine XS.i2b X33.here hx rfl (hb hby own_d10_32) rfl ?_
            show Steps p.tables e below (T33.setTop (mkF m 33 #[.val (.ref wr), .val (.long v1), .second, .val (.int (32 : Int32))] [(.int ((((v1.toUInt64 >>> ((32 : Int32) &&& 0x3f).toInt64.toUInt64).toInt64).toInt32).toInt8.toInt32)), (.int (((zz + (1 : Int32)) + (1 : Int32)) + (1 : Int32))), (.ref bf)])) _
            refine st36 _ ?_
            show Steps p.tables e below (T36.setTop (mkF m 34 #[.val (.ref wr), .val (.long v1), .second, .val (.int (32 : Int32))] [])) _
            refine XS.iinc X36.here hx rfl (hb hby own_d10_34) rfl (l' := #[.val (.ref wr), .val (.long v1), .second, .val (.int (24 : Int32))]) rfl ?_
            show Steps p.tables e below (T36.setTop (mkF m 37 #[.val (.ref wr), .val (.long v1), .second, .val (.int (24 : Int32))] [])) _
            refine XS.goto X36.here hx rfl (pc0 := 37) (pc' := 9) rfl (hb hby own_d10_37) (by decide) (by decide) ?_
            exact k)
          obtain ⟨LL39, X39, N39⟩ : ∃ L, Stand p l e ({ frames := 1, cells := 0, slots := 0, locals := 13 } : Room) s m #[(.ref wr), (.long v1)] below meth c T36 L 0 0 ∧ Fr n0 L := ⟨_, X36, N36⟩
          as_aux_lemma =>
            obtain ⟨T40, X40, e40, st40⟩ := getF X39 hx hZ hown (host := "") (Or.inl (hw _ (List.mem_of_getElem? (i := 10) rfl))) Via.refl e36 Fb (g := (mkF m 14 #[.val (.ref wr), .val (.long v1), .second, .val (.int (24 : Int32))] [(.ref wr)])) rfl rfl (hb hby own_d10_14)
            obtain ⟨T41, X41, e41, st41⟩ := getF X40 hx hZ hown (host := "") (Or.inl (hw _ (List.mem_of_getElem? (i := 17) rfl))) Via.refl e40 Fl (g := (mkF m 19 #[.val (.ref wr), .val (.long v1), .second, .val (.int (24 : Int32))] [(.ref wr), (.ref wr), (.ref bf)])) rfl rfl (hb hby own_d10_19)
            obtain ⟨T42, h42, X42, e42, W42, st42⟩ := putF X41 hx hZ hown (host := "") (Or.inl (hw _ (List.mem_of_getElem? (i := 17) rfl))) Via.refl e41 Fl Ew (Or.inl (hw _ (List.mem_of_getElem? (i := 18) rfl))) (hw _ (List.mem_of_getElem? (i := 2) rfl)) (ty := .int) (by decide) rfl rfl (g := (mkF m 25 #[.val (.ref wr), .val (.long v1), .second, .val (.int (24 : Int32))] [(.int (((((zz + (1 : Int32)) + (1 : Int32)) + (1 : Int32)) + (1 : Int32)) + (1 : Int32))), (.ref wr), (.int ((((zz + (1 : Int32)) + (1 : Int32)) + (1 : Int32)) + (1 : Int32))), (.ref bf)])) rfl rfl (hb hby own_d10_25)
            have Ew := Ew.wr W42
            have Fb := Fb.other W42 (Or.inr (slot_ne (Or.inl (hw _ (List.mem_of_getElem? (i := 11) rfl))) (Or.inl (hw _ (List.mem_of_getElem? (i := 18) rfl))) (by decide) (t := (.array .byte)) (t' := .int) (by decide) (by decide)))
            have Vb := Vb.other W42 (Ne.symm ne_wr_bf)
            have Z43 : n0 ≤ h42.size := Nat.le_trans Z37 (Keep.of_wr W42).1
            have KP := KP.wr W42 (Or.inl (List.mem_of_getElem? (i := 0) rfl))
            have Fl := Fl.same W42
            have N42 := Fr.snoc X42 N39 gw
            obtain ⟨cl44, Ar44, q44, S44, M44, H44, G44⟩ := id Vb
            have hin44 : ¬ (((((zz + (1 : Int32)) + (1 : Int32)) + (1 : Int32)) + (1 : Int32)) < 0 ∨ cl44.slots.size ≤ (((((zz + (1 : Int32)) + (1 : Int32)) + (1 : Int32)) + (1 : Int32))).toNatClampNeg) := inb_of S44 (own_ib hz36 (by have q_ := hc; (try simp only [List.length_append, List.length_cons, List.length_nil]); omega))
            obtain ⟨T45, h45, X45, e45, W45, st45⟩ := stB X42 hx hZ e42 Ar44 (j := ((((zz + (1 : Int32)) + (1 : Int32)) + (1 : Int32)) + (1 : Int32))) hin44 (g := (mkF m 33 #[.val (.ref wr), .val (.long v1), .second, .val (.int (24 : Int32))] [(.int ((((v1.toUInt64 >>> ((24 : Int32) &&& 0x3f).toInt64.toUInt64).toInt64).toInt32).toInt8.toInt32)), (.int ((((zz + (1 : Int32)) + (1 : Int32)) + (1 : Int32)) + (1 : Int32))), (.ref bf)])) rfl rfl (hb hby own_d10_33)
            have Ew := Ew.wr W45
            have Fb := Fb.other W45 (Or.inl ne_wr_bf)
            have Fl := Fl.other W45 (Or.inl ne_wr_bf)
            have Z46 : n0 ≤ h45.size := Nat.le_trans Z43 (Keep.of_wr W45).1
            have KP := KP.wr W45 (Or.inl (List.mem_of_getElem? (i := 1) rfl))
            have Vb : Arv Z h45 bf kb .byte cc (List.map Value.int (DG36 ++ [((((v1.toUInt64 >>> ((24 : Int32) &&& 0x3f).toInt64.toUInt64).toInt64).toInt32).toInt8.toInt32)])) (.int (0 : Int32)) := own_push Ar44 q44 S44 M44 H44 G44 W45 (own_ni _) hz36
            have hz45 : (((((zz + (1 : Int32)) + (1 : Int32)) + (1 : Int32)) + (1 : Int32)) + (1 : Int32)).toInt = ((DG36 ++ [((((v1.toUInt64 >>> ((24 : Int32) &&& 0x3f).toInt64.toUInt64).toInt64).toInt32).toInt8.toInt32)]).length : Int) := own_hz1 hz36 (by have q_ := hc; have q2_ := hs; (try simp only [List.length_append, List.length_cons, List.length_nil]); omega)
            have N45 := Fr.snoc X45 N42 gb
            obtain ⟨DG45, eG45⟩ : ∃ z_, z_ = (DG36 ++ [((((v1.toUInt64 >>> ((24 : Int32) &&& 0x3f).toInt64.toUInt64).toInt64).toInt32).toInt8.toInt32)]) := ⟨_, rfl⟩
            rw [← eG45] at Vb hz45
            have lG45 : DG45.length = DG36.length + 1 := by rw [eG45, List.length_append]; rfl
            have pre47 : ∀ t, Steps p.tables e below (T45.setTop (mkF m 9 #[.val (.ref wr), .val (.long v1), .second, .val (.int (16 : Int32))] [])) t → Steps p.tables e below (s₁.setTop (entryFrame m #[(.ref wr), (.long v1)] 4)) t := fun t k => pre38 t (by
              show Steps p.tables e below (T36.setTop (mkF m 9 #[.val (.ref wr), .val (.long v1), .second, .val (.int (24 : Int32))] [])) _
              refine XS.iloadN X39.here hx rfl (hb hby own_d10_9) rfl ?_
              show Steps p.tables e below (T36.setTop (mkF m 10 #[.val (.ref wr), .val (.long v1), .second, .val (.int (24 : Int32))] [(.int (24 : Int32))])) _
              refine XS.ifNo X39.here hx rfl (hb hby own_d10_10) rfl ((if0 _ _).trans (flt (by decide : ¬ ((24 : Int32) < (0 : Int32)))).1) ?_
              show Steps p.tables e below (T36.setTop (mkF m 13 #[.val (.ref wr), .val (.long v1), .second, .val (.int (24 : Int32))] [])) _
              refine XS.aloadN X39.here hx rfl (hb hby own_d10_13) rfl rfl ?_
              show Steps p.tables e below (T36.setTop (mkF m 14 #[.val (.ref wr), .val (.long v1), .second, .val (.int (24 : Int32))] [(.ref wr)])) _
              refine st40 _ ?_
              show Steps p.tables e below (T40.setTop (mkF m 17 #[.val (.ref wr), .val (.long v1), .second, .val (.int (24 : Int32))] [(.ref bf)])) _
              refine XS.aloadN X40.here hx rfl (hb hby own_d10_17) rfl rfl ?_
              show Steps p.tables e below (T40.setTop (mkF m 18 #[.val (.ref wr), .val (.long v1), .second, .val (.int (24 : Int32))] [(.ref wr), (.ref bf)])) _
              refine XS.dup X40.here hx rfl (hb hby own_d10_18) rfl rfl ?_
              show Steps p.tables e below (T40.setTop (mkF m 19 #[.val (.ref wr), .val (.long v1), .second, .val (.int (24 : Int32))] [(.ref wr), (.ref wr), (.ref bf)])) _
              refine st41 _ ?_
              show Steps p.tables e below (T41.setTop (mkF m 22 #[.val (.ref wr), .val (.long v1), .second, .val (.int (24 : Int32))] [(.int ((((zz + (1 : Int32)) + (1 : Int32)) + (1 : Int32)) + (1 : Int32))), (.ref wr), (.ref bf)])) _
              refine XS.dupX1 X41.here hx rfl (hb hby own_d10_22) rfl rfl rfl ?_
              show Steps p.tables e below (T41.setTop (mkF m 23 #[.val (.ref wr), .val (.long v1), .second, .val (.int (24 : Int32))] [(.int ((((zz + (1 : Int32)) + (1 : Int32)) + (1 : Int32)) + (1 : Int32))), (.ref wr), (.int ((((zz + (1 : Int32)) + (1 : Int32)) + (1 : Int32)) + (1 : Int32))), (.ref bf)])) _
              refine XS.iconst X41.here hx rfl (hb hby own_d10_23) ?_
              show Steps p.tables e below (T41.setTop (mkF m 24 #[.val (.ref wr), .val (.long v1), .second, .val (.int (24 : Int32))] [(.int (1 : Int32)), (.int ((((zz + (1 : Int32)) + (1 : Int32)) + (1 : Int32)) + (1 : Int32))), (.ref wr), (.int ((((zz + (1 : Int32)) + (1 : Int32)) + (1 : Int32)) + (1 : Int32))), (.ref bf)])) _
              refine XS.iadd X41.here hx rfl (hb hby own_d10_24) rfl ?_
              show Steps p.tables e below (T41.setTop (mkF m 25 #[.val (.ref wr), .val (.long v1), .second, .val (.int (24 : Int32))] [(.int (((((zz + (1 : Int32)) + (1 : Int32)) + (1 : Int32)) + (1 : Int32)) + (1 : Int32))), (.ref wr), (.int ((((zz + (1 : Int32)) + (1 : Int32)) + (1 : Int32)) + (1 : Int32))), (.ref bf)])) _
              refine st42 _ ?_
              show Steps p.tables e below (T42.setTop (mkF m 28 #[.val (.ref wr), .val (.long v1), .second, .val (.int (24 : Int32))] [(.int ((((zz + (1 : Int32)) + (1 : Int32)) + (1 : Int32)) + (1 : Int32))), (.ref bf)])) _
              refine XS.lloadN X42.here hx rfl (hb hby own_d10_28) rfl ?_
              show Steps p.tables e below (T42.setTop (mkF m 29 #[.val (.ref wr), .val (.long v1), .second, .val (.int (24 : Int32))] [(.long v1), (.int ((((zz + (1 : Int32)) + (1 : Int32)) + (1 : Int32)) + (1 : Int32))), (.ref bf)])) _
              refine XS.iloadN X42.here hx rfl (hb hby own_d10_29) rfl ?_
              show Steps p.tables e below (T42.setTop (mkF m 30 #[.val (.ref wr), .val (.long v1), .second, .val (.int (24 : Int32))] [(.int (24 : Int32)), (.long v1), (.int ((((zz + (1 : Int32)) + (1 : Int32)) + (1 : Int32)) + (1 : Int32))), (.ref bf)])) _
              refine XS.lushr X42.here hx rfl (hb hby own_d10_30) rfl ?_
              show Steps p.tables e below (T42.setTop (mkF m 31 #[.val (.ref wr), .val (.long v1), .second, .val (.int (24 : Int32))] [(.long ((v1.toUInt64 >>> ((24 : Int32) &&& 0x3f).toInt64.toUInt64).toInt64)), (.int ((((zz + (1 : Int32)) + (1 : Int32)) + (1 : Int32)) + (1 : Int32))), (.ref bf)])) _
              refine XS.l2i X42.here hx rfl (hb hby own_d10_31) rfl ?_
              show Steps p.tables e below (T42.setTop (mkF m 32 #[.val (.ref wr), .val (.long v1), .second, .val (.int (24 : Int32))] [(.int (((v1.toUInt64 >>> ((24 : Int32) &&& 0x3f).toInt64.toUInt64).toInt64).toInt32)), (.int ((((zz + (1 : Int32)) + (1 : Int32)) + (1 : Int32)) + (1 : Int32))), (.ref bf)])) _
              refine XS.i2b X42.here hx rfl (hb hby own_d10_32) rfl ?_
              show Steps p.tables e below (T42.setTop (mkF m 33 #[.val (.ref wr), .val (.long v1), .second, .val (.int (24 : Int32))] [(.int ((((v1.toUInt64 >>> ((24 : Int32) &&& 0x3f).toInt64.toUInt64).toInt64).toInt32).toInt8.toInt32)), (.int ((((zz + (1 : Int32)) + (1 : Int32)) + (1 : Int32)) + (1 : Int32))), (.ref bf)])) _
              refine st45 _ ?_
              show Steps p.tables e below (T45.setTop (mkF m 34 #[.val (.ref wr), .val (.long v1), .second, .val (.int (24 : Int32))] [])) _
              refine XS.iinc X45.here hx rfl (hb hby own_d10_34) rfl (l' := #[.val (.ref wr), .val (.long v1), .second, .val (.int (16 : Int32))]) rfl ?_
              show Steps p.tables e below (T45.setTop (mkF m 37 #[.val (.ref wr), .val (.long v1), .second, .val (.int (16 : Int32))] [])) _
              refine XS.goto X45.here hx rfl (pc0 := 37) (pc' := 9) rfl (hb hby own_d10_37) (by decide) (by decide) ?_
              exact k)
            obtain ⟨LL48, X48, N48⟩ : ∃ L, Stand p l e ({ frames := 1, cells := 0, slots := 0, locals := 13 } : Room) s m #[(.ref wr), (.long v1)] below meth c T45 L 0 0 ∧ Fr n0 L := ⟨_, X45, N45⟩
            as_aux_lemma =>
              obtain ⟨T49, X49, e49, st49⟩ := getF X48 hx hZ hown (host := "") (Or.inl (hw _ (List.mem_of_getElem? (i := 10) rfl))) Via.refl e45 Fb (g := (mkF m 14 #[.val (.ref wr), .val (.long v1), .second, .val (.int (16 : Int32))] [(.ref wr)])) rfl rfl (hb hby own_d10_14)
              obtain ⟨T50, X50, e50, st50⟩ := getF X49 hx hZ hown (host := "") (Or.inl (hw _ (List.mem_of_getElem? (i := 17) rfl))) Via.refl e49 Fl (g := (mkF m 19 #[.val (.ref wr), .val (.long v1), .second, .val (.int (16 : Int32))] [(.ref wr), (.ref wr), (.ref bf)])) rfl rfl (hb hby own_d10_19)
              obtain ⟨T51, h51, X51, e51, W51, st51⟩ := putF X50 hx hZ hown (host := "") (Or.inl (hw _ (List.mem_of_getElem? (i := 17) rfl))) Via.refl e50 Fl Ew (Or.inl (hw _ (List.mem_of_getElem? (i := 18) rfl))) (hw _ (List.mem_of_getElem? (i := 2) rfl)) (ty := .int) (by decide) rfl rfl (g := (mkF m 25 #[.val (.ref wr), .val (.long v1), .second, .val (.int (16 : Int32))] [(.int ((((((zz + (1 : Int32)) + (1 : Int32)) + (1 : Int32)) + (1 : Int32)) + (1 : Int32)) + (1 : Int32))), (.ref wr), (.int (((((zz + (1 : Int32)) + (1 : Int32)) + (1 : Int32)) + (1 : Int32)) + (1 : Int32))), (.ref bf)])) rfl rfl (hb hby own_d10_25)
              have Ew := Ew.wr W51
              have Fb := Fb.other W51 (Or.inr (slot_ne (Or.inl (hw _ (List.mem_of_getElem? (i := 11) rfl))) (Or.inl (hw _ (List.mem_of_getElem? (i := 18) rfl))) (by decide) (t := (.array .byte)) (t' := .int) (by decide) (by decide)))
              have Vb := Vb.other W51 (Ne.symm ne_wr_bf)
              have Z52 : n0 ≤ h51.size := Nat.le_trans Z46 (Keep.of_wr W51).1
              have KP := KP.wr W51 (Or.inl (List.mem_of_getElem? (i := 0) rfl))
              have Fl := Fl.same W51
              have N51 := Fr.snoc X51 N48 gw
              obtain ⟨cl53, Ar53, q53, S53, M53, H53, G53⟩ := id Vb
              have hin53 : ¬ ((((((zz + (1 : Int32)) + (1 : Int32)) + (1 : Int32)) + (1 : Int32)) + (1 : Int32)) < 0 ∨ cl53.slots.size ≤ ((((((zz + (1 : Int32)) + (1 : Int32)) + (1 : Int32)) + (1 : Int32)) + (1 : Int32))).toNatClampNeg) := inb_of S53 (own_ib hz45 (by have q_ := hc; (try simp only [List.length_append, List.length_cons, List.length_nil]); omega))
              obtain ⟨T54, h54, X54, e54, W54, st54⟩ := stB X51 hx hZ e51 Ar53 (j := (((((zz + (1 : Int32)) + (1 : Int32)) + (1 : Int32)) + (1 : Int32)) + (1 : Int32))) hin53 (g := (mkF m 33 #[.val (.ref wr), .val (.long v1), .second, .val (.int (16 : Int32))] [(.int ((((v1.toUInt64 >>> ((16 : Int32) &&& 0x3f).toInt64.toUInt64).toInt64).toInt32).toInt8.toInt32)), (.int (((((zz + (1 : Int32)) + (1 : Int32)) + (1 : Int32)) + (1 : Int32)) + (1 : Int32))), (.ref bf)])) rfl rfl (hb hby own_d10_33)
              have Ew := Ew.wr W54
              have Fb := Fb.other W54 (Or.inl ne_wr_bf)
              have Fl := Fl.other W54 (Or.inl ne_wr_bf)
              have Z55 : n0 ≤ h54.size := Nat.le_trans Z52 (Keep.of_wr W54).1
              have KP := KP.wr W54 (Or.inl (List.mem_of_getElem? (i := 1) rfl))
              have Vb : Arv Z h54 bf kb .byte cc (List.map Value.int (DG45 ++ [((((v1.toUInt64 >>> ((16 : Int32) &&& 0x3f).toInt64.toUInt64).toInt64).toInt32).toInt8.toInt32)])) (.int (0 : Int32)) := own_push Ar53 q53 S53 M53 H53 G53 W54 (own_ni _) hz45
              have hz54 : ((((((zz + (1 : Int32)) + (1 : Int32)) + (1 : Int32)) + (1 : Int32)) + (1 : Int32)) + (1 : Int32)).toInt = ((DG45 ++ [((((v1.toUInt64 >>> ((16 : Int32) &&& 0x3f).toInt64.toUInt64).toInt64).toInt32).toInt8.toInt32)]).length : Int) := own_hz1 hz45 (by have q_ := hc; have q2_ := hs; (try simp only [List.length_append, List.length_cons, List.length_nil]); omega)
              have N54 := Fr.snoc X54 N51 gb
              obtain ⟨DG54, eG54⟩ : ∃ z_, z_ = (DG45 ++ [((((v1.toUInt64 >>> ((16 : Int32) &&& 0x3f).toInt64.toUInt64).toInt64).toInt32).toInt8.toInt32)]) := ⟨_, rfl⟩
              rw [← eG54] at Vb hz54
              have lG54 : DG54.length = DG45.length + 1 := by rw [eG54, List.length_append]; rfl
              have pre56 : ∀ t, Steps p.tables e below (T54.setTop (mkF m 9 #[.val (.ref wr), .val (.long v1), .second, .val (.int (8 : Int32))] [])) t → Steps p.tables e below (s₁.setTop (entryFrame m #[(.ref wr), (.long v1)] 4)) t := fun t k => pre47 t (by
                show Steps p.tables e below (T45.setTop (mkF m 9 #[.val (.ref wr), .val (.long v1), .second, .val (.int (16 : Int32))] [])) _
                refine XS.iloadN X48.here hx rfl (hb hby own_d10_9) rfl ?_
                show Steps p.tables e below (T45.setTop (mkF m 10 #[.val (.ref wr), .val (.long v1), .second, .val (.int (16 : Int32))] [(.int (16 : Int32))])) _
                refine XS.ifNo X48.here hx rfl (hb hby own_d10_10) rfl ((if0 _ _).trans (flt (by decide : ¬ ((16 : Int32) < (0 : Int32)))).1) ?_
                show Steps p.tables e below (T45.setTop (mkF m 13 #[.val (.ref wr), .val (.long v1), .second, .val (.int (16 : Int32))] [])) _
                refine XS.aloadN X48.here hx rfl (hb hby own_d10_13) rfl rfl ?_
                show Steps p.tables e below (T45.setTop (mkF m 14 #[.val (.ref wr), .val (.long v1), .second, .val (.int (16 : Int32))] [(.ref wr)])) _
                refine st49 _ ?_
                show Steps p.tables e below (T49.setTop (mkF m 17 #[.val (.ref wr), .val (.long v1), .second, .val (.int (16 : Int32))] [(.ref bf)])) _
                refine XS.aloadN X49.here hx rfl (hb hby own_d10_17) rfl rfl ?_
                show Steps p.tables e below (T49.setTop (mkF m 18 #[.val (.ref wr), .val (.long v1), .second, .val (.int (16 : Int32))] [(.ref wr), (.ref bf)])) _
                refine XS.dup X49.here hx rfl (hb hby own_d10_18) rfl rfl ?_
                show Steps p.tables e below (T49.setTop (mkF m 19 #[.val (.ref wr), .val (.long v1), .second, .val (.int (16 : Int32))] [(.ref wr), (.ref wr), (.ref bf)])) _
                refine st50 _ ?_
                show Steps p.tables e below (T50.setTop (mkF m 22 #[.val (.ref wr), .val (.long v1), .second, .val (.int (16 : Int32))] [(.int (((((zz + (1 : Int32)) + (1 : Int32)) + (1 : Int32)) + (1 : Int32)) + (1 : Int32))), (.ref wr), (.ref bf)])) _
                refine XS.dupX1 X50.here hx rfl (hb hby own_d10_22) rfl rfl rfl ?_
                show Steps p.tables e below (T50.setTop (mkF m 23 #[.val (.ref wr), .val (.long v1), .second, .val (.int (16 : Int32))] [(.int (((((zz + (1 : Int32)) + (1 : Int32)) + (1 : Int32)) + (1 : Int32)) + (1 : Int32))), (.ref wr), (.int (((((zz + (1 : Int32)) + (1 : Int32)) + (1 : Int32)) + (1 : Int32)) + (1 : Int32))), (.ref bf)])) _
                refine XS.iconst X50.here hx rfl (hb hby own_d10_23) ?_
                show Steps p.tables e below (T50.setTop (mkF m 24 #[.val (.ref wr), .val (.long v1), .second, .val (.int (16 : Int32))] [(.int (1 : Int32)), (.int (((((zz + (1 : Int32)) + (1 : Int32)) + (1 : Int32)) + (1 : Int32)) + (1 : Int32))), (.ref wr), (.int (((((zz + (1 : Int32)) + (1 : Int32)) + (1 : Int32)) + (1 : Int32)) + (1 : Int32))), (.ref bf)])) _
                refine XS.iadd X50.here hx rfl (hb hby own_d10_24) rfl ?_
                show Steps p.tables e below (T50.setTop (mkF m 25 #[.val (.ref wr), .val (.long v1), .second, .val (.int (16 : Int32))] [(.int ((((((zz + (1 : Int32)) + (1 : Int32)) + (1 : Int32)) + (1 : Int32)) + (1 : Int32)) + (1 : Int32))), (.ref wr), (.int (((((zz + (1 : Int32)) + (1 : Int32)) + (1 : Int32)) + (1 : Int32)) + (1 : Int32))), (.ref bf)])) _
                refine st51 _ ?_
                show Steps p.tables e below (T51.setTop (mkF m 28 #[.val (.ref wr), .val (.long v1), .second, .val (.int (16 : Int32))] [(.int (((((zz + (1 : Int32)) + (1 : Int32)) + (1 : Int32)) + (1 : Int32)) + (1 : Int32))), (.ref bf)])) _
                refine XS.lloadN X51.here hx rfl (hb hby own_d10_28) rfl ?_
                show Steps p.tables e below (T51.setTop (mkF m 29 #[.val (.ref wr), .val (.long v1), .second, .val (.int (16 : Int32))] [(.long v1), (.int (((((zz + (1 : Int32)) + (1 : Int32)) + (1 : Int32)) + (1 : Int32)) + (1 : Int32))), (.ref bf)])) _
                refine XS.iloadN X51.here hx rfl (hb hby own_d10_29) rfl ?_
                show Steps p.tables e below (T51.setTop (mkF m 30 #[.val (.ref wr), .val (.long v1), .second, .val (.int (16 : Int32))] [(.int (16 : Int32)), (.long v1), (.int (((((zz + (1 : Int32)) + (1 : Int32)) + (1 : Int32)) + (1 : Int32)) + (1 : Int32))), (.ref bf)])) _
                refine XS.lushr X51.here hx rfl (hb hby own_d10_30) rfl ?_
                show Steps p.tables e below (T51.setTop (mkF m 31 #[.val (.ref wr), .val (.long v1), .second, .val (.int (16 : Int32))] [(.long ((v1.toUInt64 >>> ((16 : Int32) &&& 0x3f).toInt64.toUInt64).toInt64)), (.int (((((zz + (1 : Int32)) + (1 : Int32)) + (1 : Int32)) + (1 : Int32)) + (1 : Int32))), (.ref bf)])) _
                refine XS.l2i X51.here hx rfl (hb hby own_d10_31) rfl ?_
                show Steps p.tables e below (T51.setTop (mkF m 32 #[.val (.ref wr), .val (.long v1), .second, .val (.int (16 : Int32))] [(.int (((v1.toUInt64 >>> ((16 : Int32) &&& 0x3f).toInt64.toUInt64).toInt64).toInt32)), (.int (((((zz + (1 : Int32)) + (1 : Int32)) + (1 : Int32)) + (1 : Int32)) + (1 : Int32))), (.ref bf)])) _
                refine XS.i2b X51.here hx rfl (hb hby own_d10_32) rfl ?_
                show Steps p.tables e below (T51.setTop (mkF m 33 #[.val (.ref wr), .val (.long v1), .second, .val (.int (16 : Int32))] [(.int ((((v1.toUInt64 >>> ((16 : Int32) &&& 0x3f).toInt64.toUInt64).toInt64).toInt32).toInt8.toInt32)), (.int (((((zz + (1 : Int32)) + (1 : Int32)) + (1 : Int32)) + (1 : Int32)) + (1 : Int32))), (.ref bf)])) _
                refine st54 _ ?_
                show Steps p.tables e below (T54.setTop (mkF m 34 #[.val (.ref wr), .val (.long v1), .second, .val (.int (16 : Int32))] [])) _
                refine XS.iinc X54.here hx rfl (hb hby own_d10_34) rfl (l' := #[.val (.ref wr), .val (.long v1), .second, .val (.int (8 : Int32))]) rfl ?_
                show Steps p.tables e below (T54.setTop (mkF m 37 #[.val (.ref wr), .val (.long v1), .second, .val (.int (8 : Int32))] [])) _
                refine XS.goto X54.here hx rfl (pc0 := 37) (pc' := 9) rfl (hb hby own_d10_37) (by decide) (by decide) ?_
                exact k)
              obtain ⟨LL57, X57, N57⟩ : ∃ L, Stand p l e ({ frames := 1, cells := 0, slots := 0, locals := 13 } : Room) s m #[(.ref wr), (.long v1)] below meth c T54 L 0 0 ∧ Fr n0 L := ⟨_, X54, N54⟩
              as_aux_lemma =>
                obtain ⟨T58, X58, e58, st58⟩ := getF X57 hx hZ hown (host := "") (Or.inl (hw _ (List.mem_of_getElem? (i := 10) rfl))) Via.refl e54 Fb (g := (mkF m 14 #[.val (.ref wr), .val (.long v1), .second, .val (.int (8 : Int32))] [(.ref wr)])) rfl rfl (hb hby own_d10_14)
                obtain ⟨T59, X59, e59, st59⟩ := getF X58 hx hZ hown (host := "") (Or.inl (hw _ (List.mem_of_getElem? (i := 17) rfl))) Via.refl e58 Fl (g := (mkF m 19 #[.val (.ref wr), .val (.long v1), .second, .val (.int (8 : Int32))] [(.ref wr), (.ref wr), (.ref bf)])) rfl rfl (hb hby own_d10_19)
                obtain ⟨T60, h60, X60, e60, W60, st60⟩ := putF X59 hx hZ hown (host := "") (Or.inl (hw _ (List.mem_of_getElem? (i := 17) rfl))) Via.refl e59 Fl Ew (Or.inl (hw _ (List.mem_of_getElem? (i := 18) rfl))) (hw _ (List.mem_of_getElem? (i := 2) rfl)) (ty := .int) (by decide) rfl rfl (g := (mkF m 25 #[.val (.ref wr), .val (.long v1), .second, .val (.int (8 : Int32))] [(.int (((((((zz + (1 : Int32)) + (1 : Int32)) + (1 : Int32)) + (1 : Int32)) + (1 : Int32)) + (1 : Int32)) + (1 : Int32))), (.ref wr), (.int ((((((zz + (1 : Int32)) + (1 : Int32)) + (1 : Int32)) + (1 : Int32)) + (1 : Int32)) + (1 : Int32))), (.ref bf)])) rfl rfl (hb hby own_d10_25)
                have Ew := Ew.wr W60
                have Fb := Fb.other W60 (Or.inr (slot_ne (Or.inl (hw _ (List.mem_of_getElem? (i := 11) rfl))) (Or.inl (hw _ (List.mem_of_getElem? (i := 18) rfl))) (by decide) (t := (.array .byte)) (t' := .int) (by decide) (by decide)))
                have Vb := Vb.other W60 (Ne.symm ne_wr_bf)
                have Z61 : n0 ≤ h60.size := Nat.le_trans Z55 (Keep.of_wr W60).1
                have KP := KP.wr W60 (Or.inl (List.mem_of_getElem? (i := 0) rfl))
                have Fl := Fl.same W60
                have N60 := Fr.snoc X60 N57 gw
                obtain ⟨cl62, Ar62, q62, S62, M62, H62, G62⟩ := id Vb
                have hin62 : ¬ (((((((zz + (1 : Int32)) + (1 : Int32)) + (1 : Int32)) + (1 : Int32)) + (1 : Int32)) + (1 : Int32)) < 0 ∨ cl62.slots.size ≤ (((((((zz + (1 : Int32)) + (1 : Int32)) + (1 : Int32)) + (1 : Int32)) + (1 : Int32)) + (1 : Int32))).toNatClampNeg) := inb_of S62 (own_ib hz54 (by have q_ := hc; (try simp only [List.length_append, List.length_cons, List.length_nil]); omega))
                obtain ⟨T63, h63, X63, e63, W63, st63⟩ := stB X60 hx hZ e60 Ar62 (j := ((((((zz + (1 : Int32)) + (1 : Int32)) + (1 : Int32)) + (1 : Int32)) + (1 : Int32)) + (1 : Int32))) hin62 (g := (mkF m 33 #[.val (.ref wr), .val (.long v1), .second, .val (.int (8 : Int32))] [(.int ((((v1.toUInt64 >>> ((8 : Int32) &&& 0x3f).toInt64.toUInt64).toInt64).toInt32).toInt8.toInt32)), (.int ((((((zz + (1 : Int32)) + (1 : Int32)) + (1 : Int32)) + (1 : Int32)) + (1 : Int32)) + (1 : Int32))), (.ref bf)])) rfl rfl (hb hby own_d10_33)
                have Ew := Ew.wr W63
                have Fb := Fb.other W63 (Or.inl ne_wr_bf)
                have Fl := Fl.other W63 (Or.inl ne_wr_bf)
                have Z64 : n0 ≤ h63.size := Nat.le_trans Z61 (Keep.of_wr W63).1
                have KP := KP.wr W63 (Or.inl (List.mem_of_getElem? (i := 1) rfl))
                have Vb : Arv Z h63 bf kb .byte cc (List.map Value.int (DG54 ++ [((((v1.toUInt64 >>> ((8 : Int32) &&& 0x3f).toInt64.toUInt64).toInt64).toInt32).toInt8.toInt32)])) (.int (0 : Int32)) := own_push Ar62 q62 S62 M62 H62 G62 W63 (own_ni _) hz54
                have hz63 : (((((((zz + (1 : Int32)) + (1 : Int32)) + (1 : Int32)) + (1 : Int32)) + (1 : Int32)) + (1 : Int32)) + (1 : Int32)).toInt = ((DG54 ++ [((((v1.toUInt64 >>> ((8 : Int32) &&& 0x3f).toInt64.toUInt64).toInt64).toInt32).toInt8.toInt32)]).length : Int) := own_hz1 hz54 (by have q_ := hc; have q2_ := hs; (try simp only [List.length_append, List.length_cons, List.length_nil]); omega)
                have N63 := Fr.snoc X63 N60 gb
                obtain ⟨DG63, eG63⟩ : ∃ z_, z_ = (DG54 ++ [((((v1.toUInt64 >>> ((8 : Int32) &&& 0x3f).toInt64.toUInt64).toInt64).toInt32).toInt8.toInt32)]) := ⟨_, rfl⟩
                rw [← eG63] at Vb hz63
                have lG63 : DG63.length = DG54.length + 1 := by rw [eG63, List.length_append]; rfl
                have pre65 : ∀ t, Steps p.tables e below (T63.setTop (mkF m 9 #[.val (.ref wr), .val (.long v1), .second, .val (.int (0 : Int32))] [])) t → Steps p.tables e below (s₁.setTop (entryFrame m #[(.ref wr), (.long v1)] 4)) t := fun t k => pre56 t (by
                  show Steps p.tables e below (T54.setTop (mkF m 9 #[.val (.ref wr), .val (.long v1), .second, .val (.int (8 : Int32))] [])) _
                  refine XS.iloadN X57.here hx rfl (hb hby own_d10_9) rfl ?_
                  show Steps p.tables e below (T54.setTop (mkF m 10 #[.val (.ref wr), .val (.long v1), .second, .val (.int (8 : Int32))] [(.int (8 : Int32))])) _
                  refine XS.ifNo X57.here hx rfl (hb hby own_d10_10) rfl ((if0 _ _).trans (flt (by decide : ¬ ((8 : Int32) < (0 : Int32)))).1) ?_
                  show Steps p.tables e below (T54.setTop (mkF m 13 #[.val (.ref wr), .val (.long v1), .second, .val (.int (8 : Int32))] [])) _
                  refine XS.aloadN X57.here hx rfl (hb hby own_d10_13) rfl rfl ?_
                  show Steps p.tables e below (T54.setTop (mkF m 14 #[.val (.ref wr), .val (.long v1), .second, .val (.int (8 : Int32))] [(.ref wr)])) _
                  refine st58 _ ?_
                  show Steps p.tables e below (T58.setTop (mkF m 17 #[.val (.ref wr), .val (.long v1), .second, .val (.int (8 : Int32))] [(.ref bf)])) _
                  refine XS.aloadN X58.here hx rfl (hb hby own_d10_17) rfl rfl ?_
                  show Steps p.tables e below (T58.setTop (mkF m 18 #[.val (.ref wr), .val (.long v1), .second, .val (.int (8 : Int32))] [(.ref wr), (.ref bf)])) _
                  refine XS.dup X58.here hx rfl (hb hby own_d10_18) rfl rfl ?_
                  show Steps p.tables e below (T58.setTop (mkF m 19 #[.val (.ref wr), .val (.long v1), .second, .val (.int (8 : Int32))] [(.ref wr), (.ref wr), (.ref bf)])) _
                  refine st59 _ ?_
                  show Steps p.tables e below (T59.setTop (mkF m 22 #[.val (.ref wr), .val (.long v1), .second, .val (.int (8 : Int32))] [(.int ((((((zz + (1 : Int32)) + (1 : Int32)) + (1 : Int32)) + (1 : Int32)) + (1 : Int32)) + (1 : Int32))), (.ref wr), (.ref bf)])) _
                  refine XS.dupX1 X59.here hx rfl (hb hby own_d10_22) rfl rfl rfl ?_
                  show Steps p.tables e below (T59.setTop (mkF m 23 #[.val (.ref wr), .val (.long v1), .second, .val (.int (8 : Int32))] [(.int ((((((zz + (1 : Int32)) + (1 : Int32)) + (1 : Int32)) + (1 : Int32)) + (1 : Int32)) + (1 : Int32))), (.ref wr), (.int ((((((zz + (1 : Int32)) + (1 : Int32)) + (1 : Int32)) + (1 : Int32)) + (1 : Int32)) + (1 : Int32))), (.ref bf)])) _
                  refine XS.iconst X59.here hx rfl (hb hby own_d10_23) ?_
                  show Steps p.tables e below (T59.setTop (mkF m 24 #[.val (.ref wr), .val (.long v1), .second, .val (.int (8 : Int32))] [(.int (1 : Int32)), (.int ((((((zz + (1 : Int32)) + (1 : Int32)) + (1 : Int32)) + (1 : Int32)) + (1 : Int32)) + (1 : Int32))), (.ref wr), (.int ((((((zz + (1 : Int32)) + (1 : Int32)) + (1 : Int32)) + (1 : Int32)) + (1 : Int32)) + (1 : Int32))), (.ref bf)])) _
                  refine XS.iadd X59.here hx rfl (hb hby own_d10_24) rfl ?_
                  show Steps p.tables e below (T59.setTop (mkF m 25 #[.val (.ref wr), .val (.long v1), .second, .val (.int (8 : Int32))] [(.int (((((((zz + (1 : Int32)) + (1 : Int32)) + (1 : Int32)) + (1 : Int32)) + (1 : Int32)) + (1 : Int32)) + (1 : Int32))), (.ref wr), (.int ((((((zz + (1 : Int32)) + (1 : Int32)) + (1 : Int32)) + (1 : Int32)) + (1 : Int32)) + (1 : Int32))), (.ref bf)])) _
                  refine st60 _ ?_
                  show Steps p.tables e below (T60.setTop (mkF m 28 #[.val (.ref wr), .val (.long v1), .second, .val (.int (8 : Int32))] [(.int ((((((zz + (1 : Int32)) + (1 : Int32)) + (1 : Int32)) + (1 : Int32)) + (1 : Int32)) + (1 : Int32))), (.ref bf)])) _
                  refine XS.lloadN X60.here hx rfl (hb hby own_d10_28) rfl ?_
                  show Steps p.tables e below (T60.setTop (mkF m 29 #[.val (.ref wr), .val (.long v1), .second, .val (.int (8 : Int32))] [(.long v1), (.int ((((((zz + (1 : Int32)) + (1 : Int32)) + (1 : Int32)) + (1 : Int32)) + (1 : Int32)) + (1 : Int32))), (.ref bf)])) _
                  refine XS.iloadN X60.here hx rfl (hb hby own_d10_29) rfl ?_
                  show Steps p.tables e below (T60.setTop (mkF m 30 #[.val (.ref wr), .val (.long v1), .second, .val (.int (8 : Int32))] [(.int (8 : Int32)), (.long v1), (.int ((((((zz + (1 : Int32)) + (1 : Int32)) + (1 : Int32)) + (1 : Int32)) + (1 : Int32)) + (1 : Int32))), (.ref bf)])) _
                  refine XS.lushr X60.here hx rfl (hb hby own_d10_30) rfl ?_
                  show Steps p.tables e below (T60.setTop (mkF m 31 #[.val (.ref wr), .val (.long v1), .second, .val (.int (8 : Int32))] [(.long ((v1.toUInt64 >>> ((8 : Int32) &&& 0x3f).toInt64.toUInt64).toInt64)), (.int ((((((zz + (1 : Int32)) + (1 : Int32)) + (1 : Int32)) + (1 : Int32)) + (1 : Int32)) + (1 : Int32))), (.ref bf)])) _
                  refine XS.l2i X60.here hx rfl (hb hby own_d10_31) rfl ?_
                  show Steps p.tables e below (T60.setTop (mkF m 32 #[.val (.ref wr), .val (.long v1), .second, .val (.int (8 : Int32))] [(.int (((v1.toUInt64 >>> ((8 : Int32) &&& 0x3f).toInt64.toUInt64).toInt64).toInt32)), (.int ((((((zz + (1 : Int32)) + (1 : Int32)) + (1 : Int32)) + (1 : Int32)) + (1 : Int32)) + (1 : Int32))), (.ref bf)])) _
                  refine XS.i2b X60.here hx rfl (hb hby own_d10_32) rfl ?_
                  show Steps p.tables e below (T60.setTop (mkF m 33 #[.val (.ref wr), .val (.long v1), .second, .val (.int (8 : Int32))] [(.int ((((v1.toUInt64 >>> ((8 : Int32) &&& 0x3f).toInt64.toUInt64).toInt64).toInt32).toInt8.toInt32)), (.int ((((((zz + (1 : Int32)) + (1 : Int32)) + (1 : Int32)) + (1 : Int32)) + (1 : Int32)) + (1 : Int32))), (.ref bf)])) _
                  refine st63 _ ?_
                  show Steps p.tables e below (T63.setTop (mkF m 34 #[.val (.ref wr), .val (.long v1), .second, .val (.int (8 : Int32))] [])) _
                  refine XS.iinc X63.here hx rfl (hb hby own_d10_34) rfl (l' := #[.val (.ref wr), .val (.long v1), .second, .val (.int (0 : Int32))]) rfl ?_
                  show Steps p.tables e below (T63.setTop (mkF m 37 #[.val (.ref wr), .val (.long v1), .second, .val (.int (0 : Int32))] [])) _
                  refine XS.goto X63.here hx rfl (pc0 := 37) (pc' := 9) rfl (hb hby own_d10_37) (by decide) (by decide) ?_
                  exact k)
                obtain ⟨LL66, X66, N66⟩ : ∃ L, Stand p l e ({ frames := 1, cells := 0, slots := 0, locals := 13 } : Room) s m #[(.ref wr), (.long v1)] below meth c T63 L 0 0 ∧ Fr n0 L := ⟨_, X63, N63⟩
                as_aux_lemma =>
                  obtain ⟨T67, X67, e67, st67⟩ := getF X66 hx hZ hown (host := "") (Or.inl (hw _ (List.mem_of_getElem? (i := 10) rfl))) Via.refl e63 Fb (g := (mkF m 14 #[.val (.ref wr), .val (.long v1), .second, .val (.int (0 : Int32))] [(.ref wr)])) rfl rfl (hb hby own_d10_14)
                  obtain ⟨T68, X68, e68, st68⟩ := getF X67 hx hZ hown (host := "") (Or.inl (hw _ (List.mem_of_getElem? (i := 17) rfl))) Via.refl e67 Fl (g := (mkF m 19 #[.val (.ref wr), .val (.long v1), .second, .val (.int (0 : Int32))] [(.ref wr), (.ref wr), (.ref bf)])) rfl rfl (hb hby own_d10_19)
                  obtain ⟨T69, h69, X69, e69, W69, st69⟩ := putF X68 hx hZ hown (host := "") (Or.inl (hw _ (List.mem_of_getElem? (i := 17) rfl))) Via.refl e68 Fl Ew (Or.inl (hw _ (List.mem_of_getElem? (i := 18) rfl))) (hw _ (List.mem_of_getElem? (i := 2) rfl)) (ty := .int) (by decide) rfl rfl (g := (mkF m 25 #[.val (.ref wr), .val (.long v1), .second, .val (.int (0 : Int32))] [(.int ((((((((zz + (1 : Int32)) + (1 : Int32)) + (1 : Int32)) + (1 : Int32)) + (1 : Int32)) + (1 : Int32)) + (1 : Int32)) + (1 : Int32))), (.ref wr), (.int (((((((zz + (1 : Int32)) + (1 : Int32)) + (1 : Int32)) + (1 : Int32)) + (1 : Int32)) + (1 : Int32)) + (1 : Int32))), (.ref bf)])) rfl rfl (hb hby own_d10_25)
                  have Ew := Ew.wr W69
                  have Fb := Fb.other W69 (Or.inr (slot_ne (Or.inl (hw _ (List.mem_of_getElem? (i := 11) rfl))) (Or.inl (hw _ (List.mem_of_getElem? (i := 18) rfl))) (by decide) (t := (.array .byte)) (t' := .int) (by decide) (by decide)))
                  have Vb := Vb.other W69 (Ne.symm ne_wr_bf)
                  have Z70 : n0 ≤ h69.size := Nat.le_trans Z64 (Keep.of_wr W69).1
                  have KP := KP.wr W69 (Or.inl (List.mem_of_getElem? (i := 0) rfl))
                  have Fl := Fl.same W69
                  have N69 := Fr.snoc X69 N66 gw
                  obtain ⟨cl71, Ar71, q71, S71, M71, H71, G71⟩ := id Vb
                  have hin71 : ¬ ((((((((zz + (1 : Int32)) + (1 : Int32)) + (1 : Int32)) + (1 : Int32)) + (1 : Int32)) + (1 : Int32)) + (1 : Int32)) < 0 ∨ cl71.slots.size ≤ ((((((((zz + (1 : Int32)) + (1 : Int32)) + (1 : Int32)) + (1 : Int32)) + (1 : Int32)) + (1 : Int32)) + (1 : Int32))).toNatClampNeg) := inb_of S71 (own_ib hz63 (by have q_ := hc; (try simp only [List.length_append, List.length_cons, List.length_nil]); omega))
                  obtain ⟨T72, h72, X72, e72, W72, st72⟩ := stB X69 hx hZ e69 Ar71 (j := (((((((zz + (1 : Int32)) + (1 : Int32)) + (1 : Int32)) + (1 : Int32)) + (1 : Int32)) + (1 : Int32)) + (1 : Int32))) hin71 (g := (mkF m 33 #[.val (.ref wr), .val (.long v1), .second, .val (.int (0 : Int32))] [(.int ((((v1.toUInt64 >>> ((0 : Int32) &&& 0x3f).toInt64.toUInt64).toInt64).toInt32).toInt8.toInt32)), (.int (((((((zz + (1 : Int32)) + (1 : Int32)) + (1 : Int32)) + (1 : Int32)) + (1 : Int32)) + (1 : Int32)) + (1 : Int32))), (.ref bf)])) rfl rfl (hb hby own_d10_33)
                  have Ew := Ew.wr W72
                  have Fb := Fb.other W72 (Or.inl ne_wr_bf)
                  have Fl := Fl.other W72 (Or.inl ne_wr_bf)
                  have Z73 : n0 ≤ h72.size := Nat.le_trans Z70 (Keep.of_wr W72).1
                  have KP := KP.wr W72 (Or.inl (List.mem_of_getElem? (i := 1) rfl))
                  have Vb : Arv Z h72 bf kb .byte cc (List.map Value.int (DG63 ++ [((((v1.toUInt64 >>> ((0 : Int32) &&& 0x3f).toInt64.toUInt64).toInt64).toInt32).toInt8.toInt32)])) (.int (0 : Int32)) := own_push Ar71 q71 S71 M71 H71 G71 W72 (own_ni _) hz63
                  have hz72 : ((((((((zz + (1 : Int32)) + (1 : Int32)) + (1 : Int32)) + (1 : Int32)) + (1 : Int32)) + (1 : Int32)) + (1 : Int32)) + (1 : Int32)).toInt = ((DG63 ++ [((((v1.toUInt64 >>> ((0 : Int32) &&& 0x3f).toInt64.toUInt64).toInt64).toInt32).toInt8.toInt32)]).length : Int) := own_hz1 hz63 (by have q_ := hc; have q2_ := hs; (try simp only [List.length_append, List.length_cons, List.length_nil]); omega)
                  have N72 := Fr.snoc X72 N69 gb
                  obtain ⟨DG72, eG72⟩ : ∃ z_, z_ = (DG63 ++ [((((v1.toUInt64 >>> ((0 : Int32) &&& 0x3f).toInt64.toUInt64).toInt64).toInt32).toInt8.toInt32)]) := ⟨_, rfl⟩
                  rw [← eG72] at Vb hz72
                  have lG72 : DG72.length = DG63.length + 1 := by rw [eG72, List.length_append]; rfl
                  have pre74 : ∀ t, Steps p.tables e below (T72.setTop (mkF m 9 #[.val (.ref wr), .val (.long v1), .second, .val (.int (-8 : Int32))] [])) t → Steps p.tables e below (s₁.setTop (entryFrame m #[(.ref wr), (.long v1)] 4)) t := fun t k => pre65 t (by
                    show Steps p.tables e below (T63.setTop (mkF m 9 #[.val (.ref wr), .val (.long v1), .second, .val (.int (0 : Int32))] [])) _
                    refine XS.iloadN X66.here hx rfl (hb hby own_d10_9) rfl ?_
                    show Steps p.tables e below (T63.setTop (mkF m 10 #[.val (.ref wr), .val (.long v1), .second, .val (.int (0 : Int32))] [(.int (0 : Int32))])) _
                    refine XS.ifNo X66.here hx rfl (hb hby own_d10_10) rfl ((if0 _ _).trans (flt (by decide : ¬ ((0 : Int32) < (0 : Int32)))).1) ?_
                    show Steps p.tables e below (T63.setTop (mkF m 13 #[.val (.ref wr), .val (.long v1), .second, .val (.int (0 : Int32))] [])) _
                    refine XS.aloadN X66.here hx rfl (hb hby own_d10_13) rfl rfl ?_
                    show Steps p.tables e below (T63.setTop (mkF m 14 #[.val (.ref wr), .val (.long v1), .second, .val (.int (0 : Int32))] [(.ref wr)])) _
                    refine st67 _ ?_
                    show Steps p.tables e below (T67.setTop (mkF m 17 #[.val (.ref wr), .val (.long v1), .second, .val (.int (0 : Int32))] [(.ref bf)])) _
                    refine XS.aloadN X67.here hx rfl (hb hby own_d10_17) rfl rfl ?_
                    show Steps p.tables e below (T67.setTop (mkF m 18 #[.val (.ref wr), .val (.long v1), .second, .val (.int (0 : Int32))] [(.ref wr), (.ref bf)])) _
                    refine XS.dup X67.here hx rfl (hb hby own_d10_18) rfl rfl ?_
                    show Steps p.tables e below (T67.setTop (mkF m 19 #[.val (.ref wr), .val (.long v1), .second, .val (.int (0 : Int32))] [(.ref wr), (.ref wr), (.ref bf)])) _
                    refine st68 _ ?_
                    show Steps p.tables e below (T68.setTop (mkF m 22 #[.val (.ref wr), .val (.long v1), .second, .val (.int (0 : Int32))] [(.int (((((((zz + (1 : Int32)) + (1 : Int32)) + (1 : Int32)) + (1 : Int32)) + (1 : Int32)) + (1 : Int32)) + (1 : Int32))), (.ref wr), (.ref bf)])) _
                    refine XS.dupX1 X68.here hx rfl (hb hby own_d10_22) rfl rfl rfl ?_
                    show Steps p.tables e below (T68.setTop (mkF m 23 #[.val (.ref wr), .val (.long v1), .second, .val (.int (0 : Int32))] [(.int (((((((zz + (1 : Int32)) + (1 : Int32)) + (1 : Int32)) + (1 : Int32)) + (1 : Int32)) + (1 : Int32)) + (1 : Int32))), (.ref wr), (.int (((((((zz + (1 : Int32)) + (1 : Int32)) + (1 : Int32)) + (1 : Int32)) + (1 : Int32)) + (1 : Int32)) + (1 : Int32))), (.ref bf)])) _
                    refine XS.iconst X68.here hx rfl (hb hby own_d10_23) ?_
                    show Steps p.tables e below (T68.setTop (mkF m 24 #[.val (.ref wr), .val (.long v1), .second, .val (.int (0 : Int32))] [(.int (1 : Int32)), (.int (((((((zz + (1 : Int32)) + (1 : Int32)) + (1 : Int32)) + (1 : Int32)) + (1 : Int32)) + (1 : Int32)) + (1 : Int32))), (.ref wr), (.int (((((((zz + (1 : Int32)) + (1 : Int32)) + (1 : Int32)) + (1 : Int32)) + (1 : Int32)) + (1 : Int32)) + (1 : Int32))), (.ref bf)])) _
                    refine XS.iadd X68.here hx rfl (hb hby own_d10_24) rfl ?_
                    show Steps p.tables e below (T68.setTop (mkF m 25 #[.val (.ref wr), .val (.long v1), .second, .val (.int (0 : Int32))] [(.int ((((((((zz + (1 : Int32)) + (1 : Int32)) + (1 : Int32)) + (1 : Int32)) + (1 : Int32)) + (1 : Int32)) + (1 : Int32)) + (1 : Int32))), (.ref wr), (.int (((((((zz + (1 : Int32)) + (1 : Int32)) + (1 : Int32)) + (1 : Int32)) + (1 : Int32)) + (1 : Int32)) + (1 : Int32))), (.ref bf)])) _
                    refine st69 _ ?_
                    show Steps p.tables e below (T69.setTop (mkF m 28 #[.val (.ref wr), .val (.long v1), .second, .val (.int (0 : Int32))] [(.int (((((((zz + (1 : Int32)) + (1 : Int32)) + (1 : Int32)) + (1 : Int32)) + (1 : Int32)) + (1 : Int32)) + (1 : Int32))), (.ref bf)])) _
                    refine XS.lloadN X69.here hx rfl (hb hby own_d10_28) rfl ?_
                    show Steps p.tables e below (T69.setTop (mkF m 29 #[.val (.ref wr), .val (.long v1), .second, .val (.int (0 : Int32))] [(.long v1), (.int (((((((zz + (1 : Int32)) + (1 : Int32)) + (1 : Int32)) + (1 : Int32)) + (1 : Int32)) + (1 : Int32)) + (1 : Int32))), (.ref bf)])) _
                    refine XS.iloadN X69.here hx rfl (hb hby own_d10_29) rfl ?_
                    show Steps p.tables e below (T69.setTop (mkF m 30 #[.val (.ref wr), .val (.long v1), .second, .val (.int (0 : Int32))] [(.int (0 : Int32)), (.long v1), (.int (((((((zz + (1 : Int32)) + (1 : Int32)) + (1 : Int32)) + (1 : Int32)) + (1 : Int32)) + (1 : Int32)) + (1 : Int32))), (.ref bf)])) _
                    refine XS.lushr X69.here hx rfl (hb hby own_d10_30) rfl ?_
                    show Steps p.tables e below (T69.setTop (mkF m 31 #[.val (.ref wr), .val (.long v1), .second, .val (.int (0 : Int32))] [(.long ((v1.toUInt64 >>> ((0 : Int32) &&& 0x3f).toInt64.toUInt64).toInt64)), (.int (((((((zz + (1 : Int32)) + (1 : Int32)) + (1 : Int32)) + (1 : Int32)) + (1 : Int32)) + (1 : Int32)) + (1 : Int32))), (.ref bf)])) _
                    refine XS.l2i X69.here hx rfl (hb hby own_d10_31) rfl ?_
                    show Steps p.tables e below (T69.setTop (mkF m 32 #[.val (.ref wr), .val (.long v1), .second, .val (.int (0 : Int32))] [(.int (((v1.toUInt64 >>> ((0 : Int32) &&& 0x3f).toInt64.toUInt64).toInt64).toInt32)), (.int (((((((zz + (1 : Int32)) + (1 : Int32)) + (1 : Int32)) + (1 : Int32)) + (1 : Int32)) + (1 : Int32)) + (1 : Int32))), (.ref bf)])) _
                    refine XS.i2b X69.here hx rfl (hb hby own_d10_32) rfl ?_
                    show Steps p.tables e below (T69.setTop (mkF m 33 #[.val (.ref wr), .val (.long v1), .second, .val (.int (0 : Int32))] [(.int ((((v1.toUInt64 >>> ((0 : Int32) &&& 0x3f).toInt64.toUInt64).toInt64).toInt32).toInt8.toInt32)), (.int (((((((zz + (1 : Int32)) + (1 : Int32)) + (1 : Int32)) + (1 : Int32)) + (1 : Int32)) + (1 : Int32)) + (1 : Int32))), (.ref bf)])) _
                    refine st72 _ ?_
                    show Steps p.tables e below (T72.setTop (mkF m 34 #[.val (.ref wr), .val (.long v1), .second, .val (.int (0 : Int32))] [])) _
                    refine XS.iinc X72.here hx rfl (hb hby own_d10_34) rfl (l' := #[.val (.ref wr), .val (.long v1), .second, .val (.int (-8 : Int32))]) rfl ?_
                    show Steps p.tables e below (T72.setTop (mkF m 37 #[.val (.ref wr), .val (.long v1), .second, .val (.int (-8 : Int32))] [])) _
                    refine XS.goto X72.here hx rfl (pc0 := 37) (pc' := 9) rfl (hb hby own_d10_37) (by decide) (by decide) ?_
                    exact k)
                  obtain ⟨LL75, X75, N75⟩ : ∃ L, Stand p l e ({ frames := 1, cells := 0, slots := 0, locals := 13 } : Room) s m #[(.ref wr), (.long v1)] below meth c T72 L 0 0 ∧ Fr n0 L := ⟨_, X72, N72⟩
                  as_aux_lemma =>
                    obtain ⟨fs, hr, hrun, hended, hW, hsame⟩ := X75.leave (v := none) (fun _ => rfl)
                    refine ⟨_, _, pre74 _ ?_, hrun, hended, _, _, rfl, ?_, ⟨_, rfl⟩, hW, hsame.mono (by decide) (by decide)⟩
                    · show Steps p.tables e below (T72.setTop (mkF m 9 #[.val (.ref wr), .val (.long v1), .second, .val (.int (-8 : Int32))] [])) _
                      refine XS.iloadN X75.here hx rfl (hb hby own_d10_9) rfl ?_
                      show Steps p.tables e below (T72.setTop (mkF m 10 #[.val (.ref wr), .val (.long v1), .second, .val (.int (-8 : Int32))] [(.int (-8 : Int32))])) _
                      refine XS.ifYes X75.here hx rfl (pc0 := 10) (pc' := 40) rfl (hb hby own_d10_10) rfl ((if0 _ _).trans (tlt (by decide : (-8 : Int32) < (0 : Int32))).1) (by decide) (by decide) ?_
                      show Steps p.tables e below (T72.setTop (mkF m 40 #[.val (.ref wr), .val (.long v1), .second, .val (.int (-8 : Int32))] [])) _
                      exact X75.returnOut hx Bd.returns (hb hby own_d10_40) hr
                    · show own_Q_own_int64N Z wr v1 bf kb cc zz DD h0 n0 _ T72.heap _
                      rw [e72]
                      rw [eG72, eG63, eG54, eG45, eG36, eG27, eG18, eG9, own_dl8] at Vb; exact ⟨rfl, N75, KP, Fb, (own_zl8 zz) ▸ Fl, Vb⟩
theorem own_d16_0 : decode jdk_29_method_65_code 0 = .ok (.iload_n 0, 1) := by decide +kernel
theorem own_d16_1 : decode jdk_29_method_65_code 1 = .ok (.iload_n 1, 1) := by decide +kernel
theorem own_d16_2 : decode jdk_29_method_65_code 2 = .ok (.if_icmp .lt 7, 3) := by decide +kernel
theorem own_d16_5 : decode jdk_29_method_65_code 5 = .ok (.iload_n 0, 1) := by decide +kernel
theorem own_d16_6 : decode jdk_29_method_65_code 6 = .ok (.goto 4, 3) := by decide +kernel
theorem own_d16_10 : decode jdk_29_method_65_code 10 = .ok (.ireturn, 1) := by decide +kernel
theorem own_ef16 (m : MethodId) (x0 : Int32) (x1 : Int32) : entryFrame m #[(.int x0), (.int x1)] 2 = mkF m 0 #[.val (.int x0), .val (.int x1)] [] := by first | (simp [entryFrame, mkF, argsToLocals, Value.category]; done) | rfl
def own_Q_own_max (Z : State) (u1 : Int32) (u2 : Int32) (h0 : Heap) (n0 : Nat) (v : Option Value) (h : Heap) (L : List Loc) : Prop := v = some (.int u1) ∧ Fr n0 L ∧ h = h0
set_option maxRecDepth 65536 in
set_option maxHeartbeats 40000000 in
theorem own_max (l : Launch) (Z : State) (a0 : Array Value) (hw : ∀ d ∈ tables_1, d.before a0 Z = true) (ws : List Jvm.Cond) (u1 : Int32) (u2 : Int32) (h0 : Heap) (n0 : Nat) (Z0 : n0 ≤ h0.size) (hm : ¬ (u1 < u2)) :
    MetFree l (⟨"java/lang/Math", "max", "(II)I"⟩ : MethodName) (head1 (Jvm.Cond.code (⟨"java/lang/Math", "max", "(II)I"⟩ : MethodName) jdk_29_method_65_code 2 (some .int) :: ws) ({ frames := 0, cells := 0, slots := 0, locals := 0 } : Room)) (fun as_ U => as_ = #[(.int u1), (.int u2)] ∧ Z.Warmed39 U.vm ∧ U.heap = h0) (fun _ _ _ _ _ => True) (fun _ U o U' => ∃ v L, o = .returned v ∧ own_Q_own_max Z u1 u2 h0 n0 v U'.heap L ∧ FrameEnd U o U' L ({ frames := 0, cells := 0, slots := 0, locals := 0 } : Room).cells ({ frames := 0, cells := 0, slots := 0, locals := 0 } : Room).slots) := by
  refine MetFree.of_bodySF (Jvm.Free.JP.mathPlain rfl (by decide +kernel)) hisR ?_
  intro p e s m args below meth c s₁ Bd hml0 hP hK
  obtain ⟨rfl, hZ, hh⟩ := hP
  have hx := Bd.exec
  have hby := Bd.bytes
  have hml : c.maxLocals = 2 := hml0
  have hown : s.vm.findClass "java/lang/Math" = some m.cls := findClass_of_methodNamed Bd.named
  have hnm := (name_of_methodNamed Bd.named Bd.method).1
  have X0 : Stand p l e ({ frames := 0, cells := 0, slots := 0, locals := 0 } : Room) s m #[(.int u1), (.int u2)] below meth c s₁ [] 0 0 := Stand.of_body Bd
  have e0 : s₁.heap = h0 := by rw [← hh, Bd.state]; rfl
  have N0 := Fr.nil n0
  have pre0 : ∀ t, Steps p.tables e below (s₁.setTop (mkF m 0 #[.val (.int u1), .val (.int u2)] [])) t → Steps p.tables e below (s₁.setTop (entryFrame m #[(.int u1), (.int u2)] 2)) t := fun t k => castTop (own_ef16 m u1 u2) k
  obtain ⟨fs, hr, hrun, hended, hW, hsame⟩ := X0.leave (v := some (.int u1)) (fun h => by rw [Bd.returns] at h; cases h)
  refine ⟨_, _, pre0 _ ?_, hrun, hended, _, _, rfl, ?_, ⟨_, rfl⟩, hW, hsame.mono (by decide) (by decide)⟩
  · show Steps p.tables e below (s₁.setTop (mkF m 0 #[.val (.int u1), .val (.int u2)] [])) _
    refine XS.iloadN X0.here hx rfl (hb hby own_d16_0) rfl ?_
    show Steps p.tables e below (s₁.setTop (mkF m 1 #[.val (.int u1), .val (.int u2)] [(.int u1)])) _
    refine XS.iloadN X0.here hx rfl (hb hby own_d16_1) rfl ?_
    show Steps p.tables e below (s₁.setTop (mkF m 2 #[.val (.int u1), .val (.int u2)] [(.int u2), (.int u1)])) _
    refine XS.icmpNo X0.here hx rfl (hb hby own_d16_2) rfl (flt (hm : ¬ (u1 < u2))).1 ?_
    show Steps p.tables e below (s₁.setTop (mkF m 5 #[.val (.int u1), .val (.int u2)] [])) _
    refine XS.iloadN X0.here hx rfl (hb hby own_d16_5) rfl ?_
    show Steps p.tables e below (s₁.setTop (mkF m 6 #[.val (.int u1), .val (.int u2)] [(.int u1)])) _
    refine XS.goto X0.here hx rfl (pc0 := 6) (pc' := 10) rfl (hb hby own_d16_6) (by decide) (by decide) ?_
    show Steps p.tables e below (s₁.setTop (mkF m 10 #[.val (.int u1), .val (.int u2)] [(.int u1)])) _
    exact retI X0 hx Bd.returns (hb hby own_d16_10) hr
  · show own_Q_own_max Z u1 u2 h0 n0 _ s₁.heap _
    rw [e0]
    exact ⟨rfl, N0, rfl⟩
theorem own_d5_0 : decode jdk_29_method_69_code 0 = .ok (.iload_n 0, 1) := by decide +kernel
theorem own_d5_1 : decode jdk_29_method_69_code 1 = .ok (.iload_n 1, 1) := by decide +kernel
theorem own_d5_2 : decode jdk_29_method_69_code 2 = .ok (.if_icmp .gt 7, 3) := by decide +kernel
theorem own_d5_5 : decode jdk_29_method_69_code 5 = .ok (.iload_n 0, 1) := by decide +kernel
theorem own_d5_6 : decode jdk_29_method_69_code 6 = .ok (.goto 4, 3) := by decide +kernel
theorem own_d5_9 : decode jdk_29_method_69_code 9 = .ok (.iload_n 1, 1) := by decide +kernel
theorem own_d5_10 : decode jdk_29_method_69_code 10 = .ok (.ireturn, 1) := by decide +kernel
theorem own_ef5 (m : MethodId) (x0 : Int32) (x1 : Int32) : entryFrame m #[(.int x0), (.int x1)] 2 = mkF m 0 #[.val (.int x0), .val (.int x1)] [] := by first | (simp [entryFrame, mkF, argsToLocals, Value.category]; done) | rfl
def own_Q_own_min (Z : State) (u1 : Int32) (u2 : Int32) (h0 : Heap) (n0 : Nat) (v : Option Value) (h : Heap) (L : List Loc) : Prop := ∃ (mm : Int32), v = some (.int mm) ∧ Fr n0 L ∧ h = h0 ∧ (mm = u1 ∨ mm = u2) ∧ ¬ (u1 < mm) ∧ ¬ (u2 < mm)
set_option maxRecDepth 65536 in
set_option maxHeartbeats 40000000 in
theorem own_min (l : Launch) (Z : State) (a0 : Array Value) (hw : ∀ d ∈ tables_1, d.before a0 Z = true) (ws : List Jvm.Cond) (u1 : Int32) (u2 : Int32) (h0 : Heap) (n0 : Nat) (Z0 : n0 ≤ h0.size) :
    MetFree l (⟨"java/lang/Math", "min", "(II)I"⟩ : MethodName) (head1 (Jvm.Cond.code (⟨"java/lang/Math", "min", "(II)I"⟩ : MethodName) jdk_29_method_69_code 2 (some .int) :: ws) ({ frames := 0, cells := 0, slots := 0, locals := 0 } : Room)) (fun as_ U => as_ = #[(.int u1), (.int u2)] ∧ Z.Warmed39 U.vm ∧ U.heap = h0) (fun _ _ _ _ _ => True) (fun _ U o U' => ∃ v L, o = .returned v ∧ own_Q_own_min Z u1 u2 h0 n0 v U'.heap L ∧ FrameEnd U o U' L ({ frames := 0, cells := 0, slots := 0, locals := 0 } : Room).cells ({ frames := 0, cells := 0, slots := 0, locals := 0 } : Room).slots) := by
  refine MetFree.of_bodySF (Jvm.Free.JP.mathPlain rfl (by decide +kernel)) hisR ?_
  intro p e s m args below meth c s₁ Bd hml0 hP hK
  obtain ⟨rfl, hZ, hh⟩ := hP
  have hx := Bd.exec
  have hby := Bd.bytes
  have hml : c.maxLocals = 2 := hml0
  have hown : s.vm.findClass "java/lang/Math" = some m.cls := findClass_of_methodNamed Bd.named
  have hnm := (name_of_methodNamed Bd.named Bd.method).1
  have X0 : Stand p l e ({ frames := 0, cells := 0, slots := 0, locals := 0 } : Room) s m #[(.int u1), (.int u2)] below meth c s₁ [] 0 0 := Stand.of_body Bd
  have e0 : s₁.heap = h0 := by rw [← hh, Bd.state]; rfl
  have N0 := Fr.nil n0
  have pre0 : ∀ t, Steps p.tables e below (s₁.setTop (mkF m 0 #[.val (.int u1), .val (.int u2)] [])) t → Steps p.tables e below (s₁.setTop (entryFrame m #[(.int u1), (.int u2)] 2)) t := fun t k => castTop (own_ef5 m u1 u2) k
  have pre1 : ∀ t, Steps p.tables e below (s₁.setTop (mkF m 2 #[.val (.int u1), .val (.int u2)] [(.int u2), (.int u1)])) t → Steps p.tables e below (s₁.setTop (entryFrame m #[(.int u1), (.int u2)] 2)) t := fun t k => pre0 t (by
    show Steps p.tables e below (s₁.setTop (mkF m 0 #[.val (.int u1), .val (.int u2)] [])) _
    refine XS.iloadN X0.here hx rfl (hb hby own_d5_0) rfl ?_
    show Steps p.tables e below (s₁.setTop (mkF m 1 #[.val (.int u1), .val (.int u2)] [(.int u1)])) _
    refine XS.iloadN X0.here hx rfl (hb hby own_d5_1) rfl ?_
    show Steps p.tables e below (s₁.setTop (mkF m 2 #[.val (.int u1), .val (.int u2)] [(.int u2), (.int u1)])) _
    exact k)
  by_cases hc2 : u2 < u1
  · skip
    obtain ⟨fs, hr, hrun, hended, hW, hsame⟩ := X0.leave (v := some (.int u2)) (fun h => by rw [Bd.returns] at h; cases h)
    refine ⟨_, _, pre1 _ ?_, hrun, hended, _, _, rfl, ?_, ⟨_, rfl⟩, hW, hsame.mono (by decide) (by decide)⟩
    · refine XS.icmpYes X0.here hx rfl (pc0 := 2) (pc' := 9) rfl (hb hby own_d5_2) rfl (tlt hc2).2.2.1 (by decide) (by decide) ?_
      show Steps p.tables e below (s₁.setTop (mkF m 9 #[.val (.int u1), .val (.int u2)] [])) _
      refine XS.iloadN X0.here hx rfl (hb hby own_d5_9) rfl ?_
      show Steps p.tables e below (s₁.setTop (mkF m 10 #[.val (.int u1), .val (.int u2)] [(.int u2)])) _
      exact retI X0 hx Bd.returns (hb hby own_d5_10) hr
    · show own_Q_own_min Z u1 u2 h0 n0 _ s₁.heap _
      rw [e0]
      exact ⟨u2, rfl, N0, rfl, Or.inr rfl, own_asy hc2, own_irr u2⟩
  · skip
    obtain ⟨fs, hr, hrun, hended, hW, hsame⟩ := X0.leave (v := some (.int u1)) (fun h => by rw [Bd.returns] at h; cases h)
    refine ⟨_, _, pre1 _ ?_, hrun, hended, _, _, rfl, ?_, ⟨_, rfl⟩, hW, hsame.mono (by decide) (by decide)⟩
    · refine XS.icmpNo X0.here hx rfl (hb hby own_d5_2) rfl (flt hc2).2.2.1 ?_
      show Steps p.tables e below (s₁.setTop (mkF m 5 #[.val (.int u1), .val (.int u2)] [])) _
      refine XS.iloadN X0.here hx rfl (hb hby own_d5_5) rfl ?_
      show Steps p.tables e below (s₁.setTop (mkF m 6 #[.val (.int u1), .val (.int u2)] [(.int u1)])) _
      refine XS.goto X0.here hx rfl (pc0 := 6) (pc' := 10) rfl (hb hby own_d5_6) (by decide) (by decide) ?_
      show Steps p.tables e below (s₁.setTop (mkF m 10 #[.val (.int u1), .val (.int u2)] [(.int u1)])) _
      exact retI X0 hx Bd.returns (hb hby own_d5_10) hr
    · show own_Q_own_min Z u1 u2 h0 n0 _ s₁.heap _
      rw [e0]
      exact ⟨u1, rfl, N0, rfl, Or.inl rfl, own_irr u1, hc2⟩
theorem own_pd1 : parseMethodDescriptor "(II)I" = some ⟨[.int, .int], some .int⟩ := by decide +kernel
theorem own_d4_0 : decode jdk_65_method_121_code 0 = .ok (.iload_n 1, 1) := by decide +kernel
theorem own_d4_1 : decode jdk_65_method_121_code 1 = .ok (.aload_n 0, 1) := by decide +kernel
theorem own_d4_2 : decode jdk_65_method_121_code 2 = .ok (.arraylength, 1) := by decide +kernel
theorem own_d4_3 : decode jdk_65_method_121_code 3 = .ok (.if_icmp .ne 11, 3) := by decide +kernel
theorem own_d4_6 : decode jdk_65_method_121_code 6 = .ok (.aload_n 0, 1) := by decide +kernel
theorem own_d4_7 : decode jdk_65_method_121_code 7 = .ok (.invokevirtual 310, 3) := by decide +kernel
theorem own_d4_10 : decode jdk_65_method_121_code 10 = .ok (.checkcast 311, 3) := by decide +kernel
theorem own_d4_13 : decode jdk_65_method_121_code 13 = .ok (.areturn, 1) := by decide +kernel
theorem own_d4_14 : decode jdk_65_method_121_code 14 = .ok (.iload_n 1, 1) := by decide +kernel
theorem own_d4_15 : decode jdk_65_method_121_code 15 = .ok (.newarray .byte, 2) := by decide +kernel
theorem own_d4_17 : decode jdk_65_method_121_code 17 = .ok (.astore_n 2, 1) := by decide +kernel
theorem own_d4_18 : decode jdk_65_method_121_code 18 = .ok (.aload_n 0, 1) := by decide +kernel
theorem own_d4_19 : decode jdk_65_method_121_code 19 = .ok (.iconst 0, 1) := by decide +kernel
theorem own_d4_20 : decode jdk_65_method_121_code 20 = .ok (.aload_n 2, 1) := by decide +kernel
theorem own_d4_21 : decode jdk_65_method_121_code 21 = .ok (.iconst 0, 1) := by decide +kernel
theorem own_d4_22 : decode jdk_65_method_121_code 22 = .ok (.aload_n 0, 1) := by decide +kernel
theorem own_d4_23 : decode jdk_65_method_121_code 23 = .ok (.arraylength, 1) := by decide +kernel
theorem own_d4_24 : decode jdk_65_method_121_code 24 = .ok (.iload_n 1, 1) := by decide +kernel
theorem own_d4_25 : decode jdk_65_method_121_code 25 = .ok (.invokestatic 304, 3) := by decide +kernel
theorem own_d4_28 : decode jdk_65_method_121_code 28 = .ok (.invokestatic 150, 3) := by decide +kernel
theorem own_d4_31 : decode jdk_65_method_121_code 31 = .ok (.aload_n 2, 1) := by decide +kernel
theorem own_d4_32 : decode jdk_65_method_121_code 32 = .ok (.areturn, 1) := by decide +kernel
theorem own_pn1 : plainName "java/util/Arrays" = true := by first | (simp [plainName, overriddenIn]; done) | decide +kernel
theorem own_ef4 (m : MethodId) (x0 : Addr) (x1 : Int32) : entryFrame m #[(.ref x0), (.int x1)] 3 = mkF m 0 #[.val (.ref x0), .val (.int x1), .unset] [] := by first | (simp [entryFrame, mkF, argsToLocals, Value.category]; done) | rfl
def own_Q_own_copyOf (Z : State) (aa : Addr) (nn : Int32) (ka : ClassId) (ca : Int32) (DD : List Int32) (h0 : Heap) (n0 : Nat) (v : Option Value) (h : Heap) (L : List Loc) : Prop := ∃ (b' : Addr) (k' : ClassId), v = some (.ref b') ∧ Fr n0 L ∧ Keep h0 h [] ∧ h0.size ≤ b' ∧ Arv Z h b' k' .byte nn (List.map Value.int DD) (.int (0 : Int32)) ∧ Exa Z h b' "[B"
set_option maxRecDepth 65536 in
set_option maxHeartbeats 40000000 in
theorem own_copyOf (l : Launch) (Z : State) (a0 : Array Value) (hw : ∀ d ∈ tables_1, d.before a0 Z = true) (ws : List Jvm.Cond) (aa : Addr) (nn : Int32) (ka : ClassId) (ca : Int32) (DD : List Int32) (h0 : Heap) (n0 : Nat) (Z0 : n0 ≤ h0.size) (Va : Arv Z h0 aa ka .byte ca (List.map Value.int DD) (.int (0 : Int32))) (Ea : Exa Z h0 aa "[B") (hn : (DD.length : Int) ≤ nn.toInt) (hn2 : nn.toInt ≤ 128) (hca : (DD.length : Int) ≤ ca.toInt) (hca2 : ca.toInt ≤ 128) :
    MetFree l (⟨"java/util/Arrays", "copyOf", "([BI)[B"⟩ : MethodName) (head1 (Jvm.Cond.code (⟨"java/util/Arrays", "copyOf", "([BI)[B"⟩ : MethodName) jdk_65_method_121_code 3 (some (.array .byte)) :: ws) ({ frames := 1, cells := 1, slots := 128, locals := 18 } : Room)) (fun as_ U => as_ = #[(.ref aa), (.int nn)] ∧ Z.Warmed39 U.vm ∧ U.heap = h0) (fun _ _ _ _ _ => True) (fun _ U o U' => ∃ v L, o = .returned v ∧ own_Q_own_copyOf Z aa nn ka ca DD h0 n0 v U'.heap L ∧ FrameEnd U o U' L ({ frames := 1, cells := 1, slots := 128, locals := 18 } : Room).cells ({ frames := 1, cells := 1, slots := 128, locals := 18 } : Room).slots) := by
  refine MetFree.of_bodySF (plainFor_of_name own_pn1) hisR ?_
  intro p e s m args below meth c s₁ Bd hml0 hP hK
  obtain ⟨rfl, hZ, hh⟩ := hP
  have hx := Bd.exec
  have hby := Bd.bytes
  have hml : c.maxLocals = 3 := hml0
  have hown : s.vm.findClass "java/util/Arrays" = some m.cls := findClass_of_methodNamed Bd.named
  have hnm := (name_of_methodNamed Bd.named Bd.method).1
  have X0 : Stand p l e ({ frames := 1, cells := 1, slots := 128, locals := 18 } : Room) s m #[(.ref aa), (.int nn)] below meth c s₁ [] 0 0 := Stand.of_body Bd
  have e0 : s₁.heap = h0 := by rw [← hh, Bd.state]; rfl
  have N0 := Fr.nil n0
  have pre0 : ∀ t, Steps p.tables e below (s₁.setTop (mkF m 0 #[.val (.ref aa), .val (.int nn), .unset] [])) t → Steps p.tables e below (s₁.setTop (entryFrame m #[(.ref aa), (.int nn)] 3)) t := fun t k => castTop (own_ef4 m aa nn) k
  have KP := Keep.refl h0 ([] : List Addr)
  obtain ⟨cl1, Ar1, q1, S1, M1, H1, G1⟩ := id Va
  have pre2 : ∀ t, Steps p.tables e below (s₁.setTop (mkF m 3 #[.val (.ref aa), .val (.int nn), .unset] [(.int ca), (.int nn)])) t → Steps p.tables e below (s₁.setTop (entryFrame m #[(.ref aa), (.int nn)] 3)) t := fun t k => pre0 t (by
    show Steps p.tables e below (s₁.setTop (mkF m 0 #[.val (.ref aa), .val (.int nn), .unset] [])) _
    refine XS.iloadN X0.here hx rfl (hb hby own_d4_0) rfl ?_
    show Steps p.tables e below (s₁.setTop (mkF m 1 #[.val (.ref aa), .val (.int nn), .unset] [(.int nn)])) _
    refine XS.aloadN X0.here hx rfl (hb hby own_d4_1) rfl rfl ?_
    show Steps p.tables e below (s₁.setTop (mkF m 2 #[.val (.ref aa), .val (.int nn), .unset] [(.ref aa), (.int nn)])) _
    refine X0.arraylength hx (by rw [e0]; exact Ar1.1) (State.isArrayOf_alike hZ.alike Ar1.2.1) (g := (mkF m 2 #[.val (.ref aa), .val (.int nn), .unset] [(.ref aa), (.int nn)])) rfl rfl (hb hby own_d4_2) _ ?_
    rw [len_of S1 M1]
    show Steps p.tables e below (s₁.setTop (mkF m 3 #[.val (.ref aa), .val (.int nn), .unset] [(.int ca), (.int nn)])) _
    exact k)
  by_cases hc3 : nn = ca
  · skip
    obtain ⟨T4, h4, X4, e4, E4, V4, Q4, st4⟩ := cloneH X0 hx hZ hown (hw _ (List.mem_of_getElem? (i := 79) rfl)) (hw _ (List.mem_of_getElem? (i := 80) rfl)) (hw _ (List.mem_of_getElem? (i := 84) rfl)) (hw _ (List.mem_of_getElem? (i := 82) rfl)) (hw _ (List.mem_of_getElem? (i := 83) rfl)) (hw _ (List.mem_of_getElem? (i := 85) rfl)) e0 Va.arh Ea (g := (mkF m 7 #[.val (.ref aa), .val (.int nn), .unset] [(.ref aa)])) rfl (by rw [hml]; rfl) rfl (hb hby own_d4_7) (by decide) (W := 0) (cap := 128) (by show 2 * 0 + _ ≤ _; exact Nat.le_of_eq rfl) (by decide) (own_nc hca2) (by decide) (by decide)
    obtain ⟨b4, g4⟩ : ∃ z, z = h0.size := ⟨_, rfl⟩
    rw [← g4] at V4 Q4 st4
    have g_b4 : n0 ≤ b4 := Nat.le_trans Z0 (Nat.le_of_eq g4.symm)
    have sz_b4 : h0.size ≤ b4 := Nat.le_trans KP.1 (Nat.le_of_eq g4.symm)
    have ne_aa_b4 : aa ≠ b4 := Nat.ne_of_lt (Nat.lt_of_lt_of_le Va.lt (Nat.le_of_eq g4.symm))
    have Va := Va.ext E4
    have Ea := Ea.ext E4
    have Z5 : n0 ≤ h4.size := Nat.le_trans Z0 E4.1
    have KP := KP.ext E4
    have V_b4 : Arv Z h4 b4 ka .byte ca (List.map Value.int DD) (.int (0 : Int32)) := V4
    obtain ⟨T6, X6, e6, st6⟩ := castY X4 hx hZ hown (hw _ (List.mem_of_getElem? (i := 86) rfl)) e4 (Ins.self Q4) (g := (mkF m 10 #[.val (.ref aa), .val (.int nn), .unset] [(.ref b4)])) rfl rfl (hb hby own_d4_10)
    obtain ⟨fs, hr, hrun, hended, hW, hsame⟩ := X6.leave (v := some (.ref b4)) (fun h => by rw [Bd.returns] at h; cases h)
    refine ⟨_, _, pre2 _ ?_, hrun, hended, _, _, rfl, ?_, ⟨_, rfl⟩, hW, hsame.mono (by decide) (by decide)⟩
    · refine XS.icmpNo X0.here hx rfl (hb hby own_d4_3) rfl (teq hc3).2 ?_
      show Steps p.tables e below (s₁.setTop (mkF m 6 #[.val (.ref aa), .val (.int nn), .unset] [])) _
      refine XS.aloadN X0.here hx rfl (hb hby own_d4_6) rfl rfl ?_
      show Steps p.tables e below (s₁.setTop (mkF m 7 #[.val (.ref aa), .val (.int nn), .unset] [(.ref aa)])) _
      refine st4 _ ?_
      show Steps p.tables e below (T4.setTop (mkF m 10 #[.val (.ref aa), .val (.int nn), .unset] [(.ref b4)])) _
      refine st6 _ ?_
      show Steps p.tables e below (T6.setTop (mkF m 13 #[.val (.ref aa), .val (.int nn), .unset] [(.ref b4)])) _
      exact retOut X6 hx (t := (.array .byte)) Bd.returns rfl (Or.inr (Or.inr (Or.inr (Or.inr ⟨rfl, rfl, rfl⟩)))) (hb hby own_d4_13) hr
    · show own_Q_own_copyOf Z aa nn ka ca DD h0 n0 _ T6.heap _
      rw [e6]
      exact ⟨b4, ka, rfl, N0, KP, sz_b4, (hc3.symm ▸ V_b4), Q4⟩
  · skip
    obtain ⟨T7, h7, k7, X7, e7, E7, A7, Q7, st7⟩ := newPE X0 hx hZ (hw _ (List.mem_of_getElem? (i := 0) rfl)) e0 (g := (mkF m 15 #[.val (.ref aa), .val (.int nn), .unset] [(.int nn)])) rfl (hb hby own_d4_15) rfl (own_nn hn (by omega)) (cap := 128) (own_nc hn2) (by decide) (by decide) (by decide) (ad := "[B") rfl
    obtain ⟨b7, g7⟩ : ∃ z, z = h0.size := ⟨_, rfl⟩
    rw [← g7] at A7 st7 Q7
    have g_b7 : n0 ≤ b7 := Nat.le_trans Z0 (Nat.le_of_eq g7.symm)
    have sz_b7 : h0.size ≤ b7 := Nat.le_trans KP.1 (Nat.le_of_eq g7.symm)
    have ne_aa_b7 : aa ≠ b7 := Nat.ne_of_lt (Nat.lt_of_lt_of_le Va.lt (Nat.le_of_eq g7.symm))
    have Va := Va.ext E7
    have Ea := Ea.ext E7
    have Z8 : n0 ≤ h7.size := Nat.le_trans Z0 E7.1
    have KP := KP.ext E7
    have V_b7 := Arv.new A7 (own_nn hn (by omega))
    have E_b7 := Q7
    obtain ⟨cl9, Ar9, q9, S9, M9, H9, G9⟩ := id Va
    obtain ⟨_, _, ⟨T10, L10, k10, n10⟩, -, X10, ⟨Lc10, hQ10, l10, y10, z10⟩, st10⟩ := Jvm.LawKit.callS X7 hx (y := (⟨"java/lang/Math", "min", "(II)I"⟩ : MethodName)) hown (mvT hZ (hw _ (List.mem_of_getElem? (i := 23) rfl))) (mvT hZ (hw _ (List.mem_of_getElem? (i := 24) rfl))) (mvT hZ (hw _ (List.mem_of_getElem? (i := 25) rfl))) (mvT hZ (hw _ (List.mem_of_getElem? (i := 26) rfl))) (by decide) (backOf (W := 4) (own_min l Z a0 hw [] ca nn  h7 n0 Z8 ) hZ (hw _ (List.mem_of_getElem? (i := 26) rfl)) (hw _ (List.mem_of_getElem? (i := 25) rfl)) (by decide) (by decide)) (g := (mkF m 25 #[.val (.ref aa), .val (.int nn), .val (.ref b7)] [(.int nn), (.int ca), (.int (0 : Int32)), (.ref b7), (.int (0 : Int32)), (.ref aa)])) rfl (by rw [hml]; rfl) (argsL := [(.int ca), (.int nn)]) (rest := [(.int (0 : Int32)), (.ref b7), (.int (0 : Int32)), (.ref aa)]) (lenOf own_pd1 rfl) rfl (by show 2 * 0 + _ ≤ _; exact Nat.le_of_eq rfl) (hb hby own_d4_25) (fun _ _ => ⟨rfl, e7, (by decide : 1 + 0 ≤ _), (by decide : 128 + 0 ≤ _)⟩)
    dsimp only [Pt.U, Pt.locs, Pt.cells, Pt.slots] at X10 l10 y10 z10 st10 hQ10
    subst l10 y10 z10
    obtain ⟨mm10, rfl, N10q, e10, hm1, hm2, hm3⟩ := hQ10
    have N10 := Fr.app N0 N10q
    obtain ⟨hm4, hm5, hm6, hm7⟩ := own_mm hm1 hm2 hm3 hca hn (by omega)
    obtain ⟨T11, h11, L11, X11, e11, N11, K11, V11, st11⟩ := cpA X10 hx hZ hown (hw _ (List.mem_of_getElem? (i := 27) rfl)) (hw _ (List.mem_of_getElem? (i := 30) rfl)) (hw _ (List.mem_of_getElem? (i := 28) rfl)) (hw _ (List.mem_of_getElem? (i := 29) rfl)) e10 Va (Arv.pad (vs' := List.replicate nn.toNatClampNeg (Value.int 0)) V_b7 (fun i => pad_rep [] (Value.int 0) _ i)) (Or.inl ⟨rfl, rfl⟩) (sp := (0 : Int32)) (dp := (0 : Int32)) (nn := mm10) (by decide) (by decide) hm4 hm6 hm7 rfl (by rw [List.length_replicate]; exact hm7) N10 g_b7 (g := (mkF m 28 #[.val (.ref aa), .val (.int nn), .val (.ref b7)] [(.int mm10), (.int (0 : Int32)), (.ref b7), (.int (0 : Int32)), (.ref aa)])) rfl (by rw [hml]; rfl) rfl (hb hby own_d4_28) (by decide) (W := 0) (by show 2 * 0 + _ ≤ _; exact Nat.le_of_eq rfl) (by decide)
    have Va := Va.keep K11 (ninS ne_aa_b7 nin0)
    have Ea := Ea.keep K11
    have E_b7 := E_b7.keep K11
    have Z12 := Nat.le_trans Z8 K11.1
    have KP := KP.trans K11 (allS (Or.inr sz_b7) all0)
    have V_b7_ : Arv Z h11 b7 k7 .byte nn (List.map Value.int DD) (.int (0 : Int32)) := Arv.pad V11 (own_cp hm5)
    obtain ⟨fs, hr, hrun, hended, hW, hsame⟩ := X11.leave (v := some (.ref b7)) (fun h => by rw [Bd.returns] at h; cases h)
    refine ⟨_, _, pre2 _ ?_, hrun, hended, _, _, rfl, ?_, ⟨_, rfl⟩, hW, hsame.mono (by decide) (by decide)⟩
    · refine XS.icmpYes X0.here hx rfl (pc0 := 3) (pc' := 14) rfl (hb hby own_d4_3) rfl (feq hc3).2 (by decide) (by decide) ?_
      show Steps p.tables e below (s₁.setTop (mkF m 14 #[.val (.ref aa), .val (.int nn), .unset] [])) _
      refine XS.iloadN X0.here hx rfl (hb hby own_d4_14) rfl ?_
      show Steps p.tables e below (s₁.setTop (mkF m 15 #[.val (.ref aa), .val (.int nn), .unset] [(.int nn)])) _
      refine st7 _ ?_
      show Steps p.tables e below (T7.setTop (mkF m 17 #[.val (.ref aa), .val (.int nn), .unset] [(.ref b7)])) _
      refine XS.astoreN X7.here hx rfl (hb hby own_d4_17) rfl rfl (l' := #[.val (.ref aa), .val (.int nn), .val (.ref b7)]) rfl ?_
      show Steps p.tables e below (T7.setTop (mkF m 18 #[.val (.ref aa), .val (.int nn), .val (.ref b7)] [])) _
      refine XS.aloadN X7.here hx rfl (hb hby own_d4_18) rfl rfl ?_
      show Steps p.tables e below (T7.setTop (mkF m 19 #[.val (.ref aa), .val (.int nn), .val (.ref b7)] [(.ref aa)])) _
      refine XS.iconst X7.here hx rfl (hb hby own_d4_19) ?_
      show Steps p.tables e below (T7.setTop (mkF m 20 #[.val (.ref aa), .val (.int nn), .val (.ref b7)] [(.int (0 : Int32)), (.ref aa)])) _
      refine XS.aloadN X7.here hx rfl (hb hby own_d4_20) rfl rfl ?_
      show Steps p.tables e below (T7.setTop (mkF m 21 #[.val (.ref aa), .val (.int nn), .val (.ref b7)] [(.ref b7), (.int (0 : Int32)), (.ref aa)])) _
      refine XS.iconst X7.here hx rfl (hb hby own_d4_21) ?_
      show Steps p.tables e below (T7.setTop (mkF m 22 #[.val (.ref aa), .val (.int nn), .val (.ref b7)] [(.int (0 : Int32)), (.ref b7), (.int (0 : Int32)), (.ref aa)])) _
      refine XS.aloadN X7.here hx rfl (hb hby own_d4_22) rfl rfl ?_
      show Steps p.tables e below (T7.setTop (mkF m 23 #[.val (.ref aa), .val (.int nn), .val (.ref b7)] [(.ref aa), (.int (0 : Int32)), (.ref b7), (.int (0 : Int32)), (.ref aa)])) _
      refine X7.arraylength hx (by rw [e7]; exact Ar9.1) (State.isArrayOf_alike hZ.alike Ar9.2.1) (g := (mkF m 23 #[.val (.ref aa), .val (.int nn), .val (.ref b7)] [(.ref aa), (.int (0 : Int32)), (.ref b7), (.int (0 : Int32)), (.ref aa)])) rfl rfl (hb hby own_d4_23) _ ?_
      rw [len_of S9 M9]
      show Steps p.tables e below (T7.setTop (mkF m 24 #[.val (.ref aa), .val (.int nn), .val (.ref b7)] [(.int ca), (.int (0 : Int32)), (.ref b7), (.int (0 : Int32)), (.ref aa)])) _
      refine XS.iloadN X7.here hx rfl (hb hby own_d4_24) rfl ?_
      show Steps p.tables e below (T7.setTop (mkF m 25 #[.val (.ref aa), .val (.int nn), .val (.ref b7)] [(.int nn), (.int ca), (.int (0 : Int32)), (.ref b7), (.int (0 : Int32)), (.ref aa)])) _
      refine st10 _ ?_
      show Steps p.tables e below (T10.setTop (mkF m 28 #[.val (.ref aa), .val (.int nn), .val (.ref b7)] [(.int mm10), (.int (0 : Int32)), (.ref b7), (.int (0 : Int32)), (.ref aa)])) _
      refine st11 _ ?_
      show Steps p.tables e below (T11.setTop (mkF m 31 #[.val (.ref aa), .val (.int nn), .val (.ref b7)] [])) _
      refine XS.aloadN X11.here hx rfl (hb hby own_d4_31) rfl rfl ?_
      show Steps p.tables e below (T11.setTop (mkF m 32 #[.val (.ref aa), .val (.int nn), .val (.ref b7)] [(.ref b7)])) _
      exact retOut X11 hx (t := (.array .byte)) Bd.returns rfl (Or.inr (Or.inr (Or.inr (Or.inr ⟨rfl, rfl, rfl⟩)))) (hb hby own_d4_32) hr
    · show own_Q_own_copyOf Z aa nn ka ca DD h0 n0 _ T11.heap _
      rw [e11]
      exact ⟨b7, k7, rfl, N11, KP, sz_b7, V_b7_, E_b7⟩
theorem own_pd2 : parseMethodDescriptor "([BI)[B" = some ⟨[(.array .byte), .int], some (.array .byte)⟩ := by decide +kernel
theorem own_d3_0 : decode prog_49_method_11_code 0 = .ok (.aload_n 0, 1) := by decide +kernel
theorem own_d3_1 : decode prog_49_method_11_code 1 = .ok (.getfield 7, 3) := by decide +kernel
theorem own_d3_4 : decode prog_49_method_11_code 4 = .ok (.aload_n 0, 1) := by decide +kernel
theorem own_d3_5 : decode prog_49_method_11_code 5 = .ok (.getfield 17, 3) := by decide +kernel
theorem own_d3_8 : decode prog_49_method_11_code 8 = .ok (.invokestatic 140, 3) := by decide +kernel
theorem own_d3_11 : decode prog_49_method_11_code 11 = .ok (.areturn, 1) := by decide +kernel
theorem own_ef3 (m : MethodId) (x0 : Addr) : entryFrame m #[(.ref x0)] 1 = mkF m 0 #[.val (.ref x0)] [] := by first | (simp [entryFrame, mkF, argsToLocals, Value.category]; done) | rfl
def own_Q_own_toB (Z : State) (wr : Addr) (bf : Addr) (kb : ClassId) (cc : Int32) (zz : Int32) (DD : List Int32) (h0 : Heap) (n0 : Nat) (v : Option Value) (h : Heap) (L : List Loc) : Prop := ∃ (b' : Addr) (k' : ClassId), v = some (.ref b') ∧ Fr n0 L ∧ Keep h0 h [] ∧ h0.size ≤ b' ∧ Arv Z h b' k' .byte zz (List.map Value.int DD) (.int (0 : Int32)) ∧ Exa Z h b' "[B"
set_option maxRecDepth 65536 in
set_option maxHeartbeats 40000000 in
theorem own_toB (l : Launch) (Z : State) (a0 : Array Value) (hw : ∀ d ∈ tables_1, d.before a0 Z = true) (ws : List Jvm.Cond) (wr : Addr) (bf : Addr) (kb : ClassId) (cc : Int32) (zz : Int32) (DD : List Int32) (h0 : Heap) (n0 : Nat) (Z0 : n0 ≤ h0.size) (Fb : Fld Z h0 wr "com/example/vigilant_consumer/vigilantconsumer/ProtocolWriter" "bytes" "[B" (.ref bf)) (Fl : Fld Z h0 wr "com/example/vigilant_consumer/vigilantconsumer/ProtocolWriter" "length" "I" (.int zz)) (Vb : Arv Z h0 bf kb .byte cc (List.map Value.int DD) (.int (0 : Int32))) (Eb : Exa Z h0 bf "[B") (hz : zz.toInt = (DD.length : Int)) (hc : (DD.length : Int) ≤ cc.toInt) (hs : cc.toInt ≤ 128) :
    MetFree l (⟨"com/example/vigilant_consumer/vigilantconsumer/ProtocolWriter", "toByteArray", "()[B"⟩ : MethodName) (head1 (Jvm.Cond.code (⟨"com/example/vigilant_consumer/vigilantconsumer/ProtocolWriter", "toByteArray", "()[B"⟩ : MethodName) prog_49_method_11_code 1 (some (.array .byte)) :: ws) ({ frames := 2, cells := 1, slots := 128, locals := 32 } : Room)) (fun as_ U => as_ = #[(.ref wr)] ∧ Z.Warmed39 U.vm ∧ U.heap = h0) (fun _ _ _ _ _ => True) (fun _ U o U' => ∃ v L, o = .returned v ∧ own_Q_own_toB Z wr bf kb cc zz DD h0 n0 v U'.heap L ∧ FrameEnd U o U' L ({ frames := 2, cells := 1, slots := 128, locals := 32 } : Room).cells ({ frames := 2, cells := 1, slots := 128, locals := 32 } : Room).slots) := by
  refine MetFree.of_bodySF (plainFor_of_name own_pn0) hisR ?_
  intro p e s m args below meth c s₁ Bd hml0 hP hK
  obtain ⟨rfl, hZ, hh⟩ := hP
  have hx := Bd.exec
  have hby := Bd.bytes
  have hml : c.maxLocals = 1 := hml0
  have hown : s.vm.findClass "com/example/vigilant_consumer/vigilantconsumer/ProtocolWriter" = some m.cls := findClass_of_methodNamed Bd.named
  have hnm := (name_of_methodNamed Bd.named Bd.method).1
  have X0 : Stand p l e ({ frames := 2, cells := 1, slots := 128, locals := 32 } : Room) s m #[(.ref wr)] below meth c s₁ [] 0 0 := Stand.of_body Bd
  have e0 : s₁.heap = h0 := by rw [← hh, Bd.state]; rfl
  have N0 := Fr.nil n0
  have pre0 : ∀ t, Steps p.tables e below (s₁.setTop (mkF m 0 #[.val (.ref wr)] [])) t → Steps p.tables e below (s₁.setTop (entryFrame m #[(.ref wr)] 1)) t := fun t k => castTop (own_ef3 m wr) k
  have KP := Keep.refl h0 ([] : List Addr)
  obtain ⟨T1, X1, e1, st1⟩ := getF X0 hx hZ hown (host := "") (Or.inl (hw _ (List.mem_of_getElem? (i := 10) rfl))) Via.refl e0 Fb (g := (mkF m 1 #[.val (.ref wr)] [(.ref wr)])) rfl rfl (hb hby own_d3_1)
  obtain ⟨T2, X2, e2, st2⟩ := getF X1 hx hZ hown (host := "") (Or.inl (hw _ (List.mem_of_getElem? (i := 17) rfl))) Via.refl e1 Fl (g := (mkF m 5 #[.val (.ref wr)] [(.ref wr), (.ref bf)])) rfl rfl (hb hby own_d3_5)
  obtain ⟨_, _, ⟨T3, L3, k3, n3⟩, -, X3, ⟨Lc3, hQ3, l3, y3, z3⟩, st3⟩ := Jvm.LawKit.callS X2 hx (y := (⟨"java/util/Arrays", "copyOf", "([BI)[B"⟩ : MethodName)) hown (mvT hZ (hw _ (List.mem_of_getElem? (i := 19) rfl))) (mvT hZ (hw _ (List.mem_of_getElem? (i := 20) rfl))) (mvT hZ (hw _ (List.mem_of_getElem? (i := 21) rfl))) (mvT hZ (hw _ (List.mem_of_getElem? (i := 22) rfl))) (by decide) (backOf (W := 0) (own_copyOf l Z a0 hw [] bf zz kb cc DD h0 n0 Z0 Vb Eb (by rw [hz]; exact Int.le_refl _) (by rw [hz]; omega) hc hs) hZ (hw _ (List.mem_of_getElem? (i := 22) rfl)) (hw _ (List.mem_of_getElem? (i := 21) rfl)) (by decide) (by decide)) (g := (mkF m 8 #[.val (.ref wr)] [(.int zz), (.ref bf)])) rfl (by rw [hml]; rfl) (argsL := [(.ref bf), (.int zz)]) (rest := []) (lenOf own_pd2 rfl) rfl (by show 2 * 0 + _ ≤ _; exact Nat.le_of_eq rfl) (hb hby own_d3_8) (fun _ _ => ⟨rfl, e2, (by decide : 0 + 1 ≤ _), (by decide : 0 + 128 ≤ _)⟩)
  dsimp only [Pt.U, Pt.locs, Pt.cells, Pt.slots] at X3 l3 y3 z3 st3 hQ3
  subst l3 y3 z3
  obtain ⟨b3, kq3, rfl, N3q, K3, sz3, V3, Q3⟩ := hQ3
  have N3 := Fr.app N0 N3q
  have Fb := Fb.keep K3 nin0
  have Fl := Fl.keep K3 nin0
  have Vb := Vb.keep K3 nin0
  have Eb := Eb.keep K3
  have Z4 := Nat.le_trans Z0 K3.1
  have KP := KP.trans K3 all0
  obtain ⟨fs, hr, hrun, hended, hW, hsame⟩ := X3.leave (v := some (.ref b3)) (fun h => by rw [Bd.returns] at h; cases h)
  refine ⟨_, _, pre0 _ ?_, hrun, hended, _, _, rfl, ?_, ⟨_, rfl⟩, hW, hsame.mono (by decide) (by decide)⟩
  · show Steps p.tables e below (s₁.setTop (mkF m 0 #[.val (.ref wr)] [])) _
    refine XS.aloadN X0.here hx rfl (hb hby own_d3_0) rfl rfl ?_
    show Steps p.tables e below (s₁.setTop (mkF m 1 #[.val (.ref wr)] [(.ref wr)])) _
    refine st1 _ ?_
    show Steps p.tables e below (T1.setTop (mkF m 4 #[.val (.ref wr)] [(.ref bf)])) _
    refine XS.aloadN X1.here hx rfl (hb hby own_d3_4) rfl rfl ?_
    show Steps p.tables e below (T1.setTop (mkF m 5 #[.val (.ref wr)] [(.ref wr), (.ref bf)])) _
    refine st2 _ ?_
    show Steps p.tables e below (T2.setTop (mkF m 8 #[.val (.ref wr)] [(.int zz), (.ref bf)])) _
    refine st3 _ ?_
    show Steps p.tables e below (T3.setTop (mkF m 11 #[.val (.ref wr)] [(.ref b3)])) _
    exact retOut X3 hx (t := (.array .byte)) Bd.returns rfl (Or.inr (Or.inr (Or.inr (Or.inr ⟨rfl, rfl, rfl⟩)))) (hb hby own_d3_11) hr
  · show own_Q_own_toB Z wr bf kb cc zz DD h0 n0 _ T3.heap _
    exact ⟨b3, kq3, rfl, N3, KP, sz3, V3, Q3⟩
theorem own_d7_14 : decode prog_49_method_14_code 14 = .ok (.aload_n 0, 1) := by decide +kernel
theorem own_d7_15 : decode prog_49_method_14_code 15 = .ok (.aload_n 0, 1) := by decide +kernel
theorem own_d7_16 : decode prog_49_method_14_code 16 = .ok (.getfield 7, 3) := by decide +kernel
theorem own_d7_19 : decode prog_49_method_14_code 19 = .ok (.aload_n 0, 1) := by decide +kernel
theorem own_d7_20 : decode prog_49_method_14_code 20 = .ok (.getfield 7, 3) := by decide +kernel
theorem own_d7_23 : decode prog_49_method_14_code 23 = .ok (.arraylength, 1) := by decide +kernel
theorem own_d7_24 : decode prog_49_method_14_code 24 = .ok (.iconst 2, 1) := by decide +kernel
theorem own_d7_25 : decode prog_49_method_14_code 25 = .ok (.imul, 1) := by decide +kernel
theorem own_d7_26 : decode prog_49_method_14_code 26 = .ok (.aload_n 0, 1) := by decide +kernel
theorem own_d7_27 : decode prog_49_method_14_code 27 = .ok (.getfield 17, 3) := by decide +kernel
theorem own_d7_30 : decode prog_49_method_14_code 30 = .ok (.iload_n 1, 1) := by decide +kernel
theorem own_d7_31 : decode prog_49_method_14_code 31 = .ok (.iadd, 1) := by decide +kernel
theorem own_d7_32 : decode prog_49_method_14_code 32 = .ok (.invokestatic 166, 3) := by decide +kernel
theorem own_d7_35 : decode prog_49_method_14_code 35 = .ok (.invokestatic 140, 3) := by decide +kernel
theorem own_d7_38 : decode prog_49_method_14_code 38 = .ok (.putfield 7, 3) := by decide +kernel
def own_Q_own_ensG (Z : State) (wr : Addr) (n1 : Int32) (bf : Addr) (kb : ClassId) (cc : Int32) (zz : Int32) (DD : List Int32) (h0 : Heap) (n0 : Nat) (v : Option Value) (h : Heap) (L : List Loc) : Prop := ∃ (b' : Addr) (k' : ClassId) (c' : Int32), v = none ∧ Fr n0 L ∧ Keep h0 h [wr] ∧ Fld Z h wr "com/example/vigilant_consumer/vigilantconsumer/ProtocolWriter" "bytes" "[B" (.ref b') ∧ Fld Z h wr "com/example/vigilant_consumer/vigilantconsumer/ProtocolWriter" "length" "I" (.int zz) ∧ Arv Z h b' k' .byte c' (List.map Value.int DD) (.int (0 : Int32)) ∧ Exa Z h b' "[B" ∧ (b' = bf ∨ h0.size ≤ b') ∧ (c' = 64 ∨ c' = 128) ∧ ¬ (c' < (zz + n1))
set_option maxRecDepth 65536 in
set_option maxHeartbeats 40000000 in
theorem own_ensG (l : Launch) (Z : State) (a0 : Array Value) (hw : ∀ d ∈ tables_1, d.before a0 Z = true) (ws : List Jvm.Cond) (wr : Addr) (n1 : Int32) (bf : Addr) (kb : ClassId) (cc : Int32) (zz : Int32) (DD : List Int32) (h0 : Heap) (n0 : Nat) (Z0 : n0 ≤ h0.size) (Ew : Exa Z h0 wr "com/example/vigilant_consumer/vigilantconsumer/ProtocolWriter") (Fb : Fld Z h0 wr "com/example/vigilant_consumer/vigilantconsumer/ProtocolWriter" "bytes" "[B" (.ref bf)) (Fl : Fld Z h0 wr "com/example/vigilant_consumer/vigilantconsumer/ProtocolWriter" "length" "I" (.int zz)) (Vb : Arv Z h0 bf kb .byte cc (List.map Value.int DD) (.int (0 : Int32))) (Eb : Exa Z h0 bf "[B") (gw : n0 ≤ wr) (gb : n0 ≤ bf) (hz : zz.toInt = (DD.length : Int)) (hcc : cc = 64 ∨ cc = 128) (hcl : (DD.length : Int) ≤ cc.toInt) (hn0 : 0 ≤ n1.toInt) (hn : (DD.length : Int) + n1.toInt ≤ 128) :
    MetFree l (⟨"com/example/vigilant_consumer/vigilantconsumer/ProtocolWriter", "ensure", "(I)V"⟩ : MethodName) (head1 (Jvm.Cond.code (⟨"com/example/vigilant_consumer/vigilantconsumer/ProtocolWriter", "ensure", "(I)V"⟩ : MethodName) prog_49_method_14_code 2 none :: ws) ({ frames := 2, cells := 1, slots := 128, locals := 33 } : Room)) (fun as_ U => as_ = #[(.ref wr), (.int n1)] ∧ Z.Warmed39 U.vm ∧ U.heap = h0) (fun _ _ _ _ _ => True) (fun _ U o U' => ∃ v L, o = .returned v ∧ own_Q_own_ensG Z wr n1 bf kb cc zz DD h0 n0 v U'.heap L ∧ FrameEnd U o U' L ({ frames := 2, cells := 1, slots := 128, locals := 33 } : Room).cells ({ frames := 2, cells := 1, slots := 128, locals := 33 } : Room).slots) := by
  refine MetFree.of_bodySF (plainFor_of_name own_pn0) hisR ?_
  intro p e s m args below meth c s₁ Bd hml0 hP hK
  obtain ⟨rfl, hZ, hh⟩ := hP
  have hx := Bd.exec
  have hby := Bd.bytes
  have hml : c.maxLocals = 2 := hml0
  have hown : s.vm.findClass "com/example/vigilant_consumer/vigilantconsumer/ProtocolWriter" = some m.cls := findClass_of_methodNamed Bd.named
  have hnm := (name_of_methodNamed Bd.named Bd.method).1
  have X0 : Stand p l e ({ frames := 2, cells := 1, slots := 128, locals := 33 } : Room) s m #[(.ref wr), (.int n1)] below meth c s₁ [] 0 0 := Stand.of_body Bd
  have e0 : s₁.heap = h0 := by rw [← hh, Bd.state]; rfl
  have N0 := Fr.nil n0
  have pre0 : ∀ t, Steps p.tables e below (s₁.setTop (mkF m 0 #[.val (.ref wr), .val (.int n1)] [])) t → Steps p.tables e below (s₁.setTop (entryFrame m #[(.ref wr), (.int n1)] 2)) t := fun t k => castTop (own_ef7 m wr n1) k
  have KP := Keep.refl h0 ([wr] : List Addr)
  obtain ⟨T1, X1, e1, st1⟩ := getF X0 hx hZ hown (host := "") (Or.inl (hw _ (List.mem_of_getElem? (i := 17) rfl))) Via.refl e0 Fl (g := (mkF m 1 #[.val (.ref wr), .val (.int n1)] [(.ref wr)])) rfl rfl (hb hby own_d7_1)
  obtain ⟨T2, X2, e2, st2⟩ := getF X1 hx hZ hown (host := "") (Or.inl (hw _ (List.mem_of_getElem? (i := 10) rfl))) Via.refl e1 Fb (g := (mkF m 7 #[.val (.ref wr), .val (.int n1)] [(.ref wr), (.int (zz + n1))])) rfl rfl (hb hby own_d7_7)
  obtain ⟨cl3, Ar3, q3, S3, M3, H3, G3⟩ := id Vb
  have pre4 : ∀ t, Steps p.tables e below (T2.setTop (mkF m 11 #[.val (.ref wr), .val (.int n1)] [(.int cc), (.int (zz + n1))])) t → Steps p.tables e below (s₁.setTop (entryFrame m #[(.ref wr), (.int n1)] 2)) t := fun t k => pre0 t (by
    show Steps p.tables e below (s₁.setTop (mkF m 0 #[.val (.ref wr), .val (.int n1)] [])) _
    refine XS.aloadN X0.here hx rfl (hb hby own_d7_0) rfl rfl ?_
    show Steps p.tables e below (s₁.setTop (mkF m 1 #[.val (.ref wr), .val (.int n1)] [(.ref wr)])) _
    refine st1 _ ?_
    show Steps p.tables e below (T1.setTop (mkF m 4 #[.val (.ref wr), .val (.int n1)] [(.int zz)])) _
    refine XS.iloadN X1.here hx rfl (hb hby own_d7_4) rfl ?_
    show Steps p.tables e below (T1.setTop (mkF m 5 #[.val (.ref wr), .val (.int n1)] [(.int n1), (.int zz)])) _
    refine XS.iadd X1.here hx rfl (hb hby own_d7_5) rfl ?_
    show Steps p.tables e below (T1.setTop (mkF m 6 #[.val (.ref wr), .val (.int n1)] [(.int (zz + n1))])) _
    refine XS.aloadN X1.here hx rfl (hb hby own_d7_6) rfl rfl ?_
    show Steps p.tables e below (T1.setTop (mkF m 7 #[.val (.ref wr), .val (.int n1)] [(.ref wr), (.int (zz + n1))])) _
    refine st2 _ ?_
    show Steps p.tables e below (T2.setTop (mkF m 10 #[.val (.ref wr), .val (.int n1)] [(.ref bf), (.int (zz + n1))])) _
    refine X2.arraylength hx (by rw [e2]; exact Ar3.1) (State.isArrayOf_alike hZ.alike Ar3.2.1) (g := (mkF m 10 #[.val (.ref wr), .val (.int n1)] [(.ref bf), (.int (zz + n1))])) rfl rfl (hb hby own_d7_10) _ ?_
    rw [len_of S3 M3]
    show Steps p.tables e below (T2.setTop (mkF m 11 #[.val (.ref wr), .val (.int n1)] [(.int cc), (.int (zz + n1))])) _
    exact k)
  by_cases hc5 : cc < (zz + n1)
  · skip
    obtain ⟨T6, X6, e6, st6⟩ := getF X2 hx hZ hown (host := "") (Or.inl (hw _ (List.mem_of_getElem? (i := 10) rfl))) Via.refl e2 Fb (g := (mkF m 16 #[.val (.ref wr), .val (.int n1)] [(.ref wr), (.ref wr)])) rfl rfl (hb hby own_d7_16)
    obtain ⟨T7, X7, e7, st7⟩ := getF X6 hx hZ hown (host := "") (Or.inl (hw _ (List.mem_of_getElem? (i := 10) rfl))) Via.refl e6 Fb (g := (mkF m 20 #[.val (.ref wr), .val (.int n1)] [(.ref wr), (.ref bf), (.ref wr)])) rfl rfl (hb hby own_d7_20)
    obtain ⟨cl8, Ar8, q8, S8, M8, H8, G8⟩ := id Vb
    obtain ⟨T9, X9, e9, st9⟩ := getF X7 hx hZ hown (host := "") (Or.inl (hw _ (List.mem_of_getElem? (i := 17) rfl))) Via.refl e7 Fl (g := (mkF m 27 #[.val (.ref wr), .val (.int n1)] [(.ref wr), (.int (cc * (2 : Int32))), (.ref bf), (.ref wr)])) rfl rfl (hb hby own_d7_27)
    obtain ⟨hg1, hg2, hg3⟩ := own_gr hcc hz hn0 hn hc5
    obtain ⟨_, _, ⟨T10, L10, k10, n10⟩, -, X10, ⟨Lc10, hQ10, l10, y10, z10⟩, st10⟩ := Jvm.LawKit.callS X9 hx (y := (⟨"java/lang/Math", "max", "(II)I"⟩ : MethodName)) hown (mvT hZ (hw _ (List.mem_of_getElem? (i := 76) rfl))) (mvT hZ (hw _ (List.mem_of_getElem? (i := 77) rfl))) (mvT hZ (hw _ (List.mem_of_getElem? (i := 25) rfl))) (mvT hZ (hw _ (List.mem_of_getElem? (i := 78) rfl))) (by decide) (backOf (W := 2) (own_max l Z a0 hw [] (cc * (2 : Int32)) (zz + n1)  h0 n0 Z0 hg3) hZ (hw _ (List.mem_of_getElem? (i := 78) rfl)) (hw _ (List.mem_of_getElem? (i := 25) rfl)) (by decide) (by decide)) (g := (mkF m 32 #[.val (.ref wr), .val (.int n1)] [(.int (zz + n1)), (.int (cc * (2 : Int32))), (.ref bf), (.ref wr)])) rfl (by rw [hml]; rfl) (argsL := [(.int (cc * (2 : Int32))), (.int (zz + n1))]) (rest := [(.ref bf), (.ref wr)]) (lenOf own_pd1 rfl) rfl (by show 2 * 0 + _ ≤ _; exact Nat.le_of_eq rfl) (hb hby own_d7_32) (fun _ _ => ⟨rfl, e9, (by decide : 0 + 0 ≤ _), (by decide : 0 + 0 ≤ _)⟩)
    dsimp only [Pt.U, Pt.locs, Pt.cells, Pt.slots] at X10 l10 y10 z10 st10 hQ10
    subst l10 y10 z10
    obtain ⟨rfl, N10q, e10⟩ := hQ10
    have N10 := Fr.app N0 N10q
    obtain ⟨_, _, ⟨T11, L11, k11, n11⟩, -, X11, ⟨Lc11, hQ11, l11, y11, z11⟩, st11⟩ := Jvm.LawKit.callS X10 hx (y := (⟨"java/util/Arrays", "copyOf", "([BI)[B"⟩ : MethodName)) hown (mvT hZ (hw _ (List.mem_of_getElem? (i := 19) rfl))) (mvT hZ (hw _ (List.mem_of_getElem? (i := 20) rfl))) (mvT hZ (hw _ (List.mem_of_getElem? (i := 21) rfl))) (mvT hZ (hw _ (List.mem_of_getElem? (i := 22) rfl))) (by decide) (backOf (W := 1) (own_copyOf l Z a0 hw [] bf (cc * (2 : Int32)) kb cc DD h0 n0 Z0 Vb Eb (by rw [hg2]; show _ ≤ (128 : Int); omega) (by rw [hg2]; decide) hcl (own_c64 hcc).2) hZ (hw _ (List.mem_of_getElem? (i := 22) rfl)) (hw _ (List.mem_of_getElem? (i := 21) rfl)) (by decide) (by decide)) (g := (mkF m 35 #[.val (.ref wr), .val (.int n1)] [(.int (cc * (2 : Int32))), (.ref bf), (.ref wr)])) rfl (by rw [hml]; rfl) (argsL := [(.ref bf), (.int (cc * (2 : Int32)))]) (rest := [(.ref wr)]) (lenOf own_pd2 rfl) rfl (by show 2 * 0 + _ ≤ _; exact Nat.le_of_eq rfl) (hb hby own_d7_35) (fun _ _ => ⟨rfl, e10, (by decide : 0 + 1 ≤ _), (by decide : 0 + 128 ≤ _)⟩)
    dsimp only [Pt.U, Pt.locs, Pt.cells, Pt.slots] at X11 l11 y11 z11 st11 hQ11
    subst l11 y11 z11
    obtain ⟨b11, kq11, rfl, N11q, K11, sz11, V11, Q11⟩ := hQ11
    have N11 := Fr.app N10 N11q
    have g_b11 : n0 ≤ b11 := Nat.le_trans Z0 sz11
    have sz_b11 : h0.size ≤ b11 := Nat.le_trans KP.1 sz11
    have ne_wr_b11 : wr ≠ b11 := Nat.ne_of_lt (Nat.lt_of_lt_of_le Ew.lt sz11)
    have ne_bf_b11 : bf ≠ b11 := Nat.ne_of_lt (Nat.lt_of_lt_of_le Vb.lt sz11)
    have Ew := Ew.keep K11
    have Fb := Fb.keep K11 nin0
    have Fl := Fl.keep K11 nin0
    have Vb := Vb.keep K11 nin0
    have Eb := Eb.keep K11
    have Z12 := Nat.le_trans Z0 K11.1
    have KP := KP.trans K11 all0
    obtain ⟨T13, h13, X13, e13, W13, st13⟩ := putF X11 hx hZ hown (host := "") (Or.inl (hw _ (List.mem_of_getElem? (i := 10) rfl))) Via.refl rfl Fb Ew (Or.inl (hw _ (List.mem_of_getElem? (i := 11) rfl))) (hw _ (List.mem_of_getElem? (i := 2) rfl)) (ty := (.array .byte)) (by decide) rfl rfl (g := (mkF m 38 #[.val (.ref wr), .val (.int n1)] [(.ref b11), (.ref wr)])) rfl rfl (hb hby own_d7_38)
    have ne_bf_wr : bf ≠ wr := Exa.ne Eb Ew (by decide)
    have Ew := Ew.wr W13
    have Fl := Fl.other W13 (Or.inr (slot_ne (Or.inl (hw _ (List.mem_of_getElem? (i := 18) rfl))) (Or.inl (hw _ (List.mem_of_getElem? (i := 11) rfl))) (by decide) (t := .int) (t' := (.array .byte)) (by decide) (by decide)))
    have Vb := Vb.other W13 ne_bf_wr
    have Eb := Eb.wr W13
    have V11 := V11.other W13 (Ne.symm ne_wr_b11)
    have Q11 := Q11.wr W13
    have Z14 : n0 ≤ h13.size := Nat.le_trans Z12 (Keep.of_wr W13).1
    have KP := KP.wr W13 (Or.inl (List.mem_of_getElem? (i := 0) rfl))
    have Fb := Fb.same W13
    have N13 := Fr.snoc X13 N11 gw
    obtain ⟨fs, hr, hrun, hended, hW, hsame⟩ := X13.leave (v := none) (fun _ => rfl)
    refine ⟨_, _, pre4 _ ?_, hrun, hended, _, _, rfl, ?_, ⟨_, rfl⟩, hW, hsame.mono (by decide) (by decide)⟩
    · refine XS.icmpNo X2.here hx rfl (hb hby own_d7_11) rfl (tlt hc5).2.2.2 ?_
      show Steps p.tables e below (T2.setTop (mkF m 14 #[.val (.ref wr), .val (.int n1)] [])) _
      refine XS.aloadN X2.here hx rfl (hb hby own_d7_14) rfl rfl ?_
      show Steps p.tables e below (T2.setTop (mkF m 15 #[.val (.ref wr), .val (.int n1)] [(.ref wr)])) _
      refine XS.aloadN X2.here hx rfl (hb hby own_d7_15) rfl rfl ?_
      show Steps p.tables e below (T2.setTop (mkF m 16 #[.val (.ref wr), .val (.int n1)] [(.ref wr), (.ref wr)])) _
      refine st6 _ ?_
      show Steps p.tables e below (T6.setTop (mkF m 19 #[.val (.ref wr), .val (.int n1)] [(.ref bf), (.ref wr)])) _
      refine XS.aloadN X6.here hx rfl (hb hby own_d7_19) rfl rfl ?_
      show Steps p.tables e below (T6.setTop (mkF m 20 #[.val (.ref wr), .val (.int n1)] [(.ref wr), (.ref bf), (.ref wr)])) _
      refine st7 _ ?_
      show Steps p.tables e below (T7.setTop (mkF m 23 #[.val (.ref wr), .val (.int n1)] [(.ref bf), (.ref bf), (.ref wr)])) _
      refine X7.arraylength hx (by rw [e7]; exact Ar8.1) (State.isArrayOf_alike hZ.alike Ar8.2.1) (g := (mkF m 23 #[.val (.ref wr), .val (.int n1)] [(.ref bf), (.ref bf), (.ref wr)])) rfl rfl (hb hby own_d7_23) _ ?_
      rw [len_of S8 M8]
      show Steps p.tables e below (T7.setTop (mkF m 24 #[.val (.ref wr), .val (.int n1)] [(.int cc), (.ref bf), (.ref wr)])) _
      refine XS.iconst X7.here hx rfl (hb hby own_d7_24) ?_
      show Steps p.tables e below (T7.setTop (mkF m 25 #[.val (.ref wr), .val (.int n1)] [(.int (2 : Int32)), (.int cc), (.ref bf), (.ref wr)])) _
      refine XS.imul X7.here hx rfl (hb hby own_d7_25) rfl ?_
      show Steps p.tables e below (T7.setTop (mkF m 26 #[.val (.ref wr), .val (.int n1)] [(.int (cc * (2 : Int32))), (.ref bf), (.ref wr)])) _
      refine XS.aloadN X7.here hx rfl (hb hby own_d7_26) rfl rfl ?_
      show Steps p.tables e below (T7.setTop (mkF m 27 #[.val (.ref wr), .val (.int n1)] [(.ref wr), (.int (cc * (2 : Int32))), (.ref bf), (.ref wr)])) _
      refine st9 _ ?_
      show Steps p.tables e below (T9.setTop (mkF m 30 #[.val (.ref wr), .val (.int n1)] [(.int zz), (.int (cc * (2 : Int32))), (.ref bf), (.ref wr)])) _
      refine XS.iloadN X9.here hx rfl (hb hby own_d7_30) rfl ?_
      show Steps p.tables e below (T9.setTop (mkF m 31 #[.val (.ref wr), .val (.int n1)] [(.int n1), (.int zz), (.int (cc * (2 : Int32))), (.ref bf), (.ref wr)])) _
      refine XS.iadd X9.here hx rfl (hb hby own_d7_31) rfl ?_
      show Steps p.tables e below (T9.setTop (mkF m 32 #[.val (.ref wr), .val (.int n1)] [(.int (zz + n1)), (.int (cc * (2 : Int32))), (.ref bf), (.ref wr)])) _
      refine st10 _ ?_
      show Steps p.tables e below (T10.setTop (mkF m 35 #[.val (.ref wr), .val (.int n1)] [(.int (cc * (2 : Int32))), (.ref bf), (.ref wr)])) _
      refine st11 _ ?_
      show Steps p.tables e below (T11.setTop (mkF m 38 #[.val (.ref wr), .val (.int n1)] [(.ref b11), (.ref wr)])) _
      refine st13 _ ?_
      show Steps p.tables e below (T13.setTop (mkF m 41 #[.val (.ref wr), .val (.int n1)] [])) _
      exact X13.returnOut hx Bd.returns (hb hby own_d7_41) hr
    · show own_Q_own_ensG Z wr n1 bf kb cc zz DD h0 n0 _ T13.heap _
      rw [e13]
      exact ⟨b11, kq11, (cc * (2 : Int32)), rfl, N13, KP, Fb, Fl, V11, Q11, Or.inr sz_b11, Or.inr hg2, hg3⟩
  · skip
    obtain ⟨fs, hr, hrun, hended, hW, hsame⟩ := X2.leave (v := none) (fun _ => rfl)
    refine ⟨_, _, pre4 _ ?_, hrun, hended, _, _, rfl, ?_, ⟨_, rfl⟩, hW, hsame.mono (by decide) (by decide)⟩
    · refine XS.icmpYes X2.here hx rfl (pc0 := 11) (pc' := 41) rfl (hb hby own_d7_11) rfl (flt hc5).2.2.2 (by decide) (by decide) ?_
      show Steps p.tables e below (T2.setTop (mkF m 41 #[.val (.ref wr), .val (.int n1)] [])) _
      exact X2.returnOut hx Bd.returns (hb hby own_d7_41) hr
    · show own_Q_own_ensG Z wr n1 bf kb cc zz DD h0 n0 _ T2.heap _
      rw [e2]
      exact ⟨bf, kb, cc, rfl, N0, KP, Fb, Fl, Vb, Eb, Or.inl rfl, hcc, hc5⟩
def own_Q_own_int8G (Z : State) (wr : Addr) (v1 : Int32) (bf : Addr) (kb : ClassId) (cc : Int32) (zz : Int32) (DD : List Int32) (h0 : Heap) (n0 : Nat) (v : Option Value) (h : Heap) (L : List Loc) : Prop := ∃ (b' : Addr) (k' : ClassId) (c' : Int32), v = none ∧ Fr n0 L ∧ Keep h0 h [wr, bf] ∧ Fld Z h wr "com/example/vigilant_consumer/vigilantconsumer/ProtocolWriter" "bytes" "[B" (.ref b') ∧ Fld Z h wr "com/example/vigilant_consumer/vigilantconsumer/ProtocolWriter" "length" "I" (.int (zz + (1 : Int32))) ∧ Arv Z h b' k' .byte c' (List.map Value.int (DD ++ [(v1.toInt8.toInt32)])) (.int (0 : Int32)) ∧ Exa Z h b' "[B" ∧ (b' = bf ∨ h0.size ≤ b') ∧ (c' = 64 ∨ c' = 128) ∧ ((DD ++ [(v1.toInt8.toInt32)]).length : Int) ≤ c'.toInt
set_option maxRecDepth 65536 in
set_option maxHeartbeats 40000000 in
theorem own_int8G (l : Launch) (Z : State) (a0 : Array Value) (hw : ∀ d ∈ tables_1, d.before a0 Z = true) (ws : List Jvm.Cond) (wr : Addr) (v1 : Int32) (bf : Addr) (kb : ClassId) (cc : Int32) (zz : Int32) (DD : List Int32) (h0 : Heap) (n0 : Nat) (Z0 : n0 ≤ h0.size) (Ew : Exa Z h0 wr "com/example/vigilant_consumer/vigilantconsumer/ProtocolWriter") (Fb : Fld Z h0 wr "com/example/vigilant_consumer/vigilantconsumer/ProtocolWriter" "bytes" "[B" (.ref bf)) (Fl : Fld Z h0 wr "com/example/vigilant_consumer/vigilantconsumer/ProtocolWriter" "length" "I" (.int zz)) (Vb : Arv Z h0 bf kb .byte cc (List.map Value.int DD) (.int (0 : Int32))) (Eb : Exa Z h0 bf "[B") (gw : n0 ≤ wr) (gb : n0 ≤ bf) (hz : zz.toInt = (DD.length : Int)) (hcc : cc = 64 ∨ cc = 128) (hcl : (DD.length : Int) ≤ cc.toInt) (hn : (DD.length : Int) + 1 ≤ 128) :
    MetFree l (⟨"com/example/vigilant_consumer/vigilantconsumer/ProtocolWriter", "int8", "(I)V"⟩ : MethodName) (head1 (Jvm.Cond.code (⟨"com/example/vigilant_consumer/vigilantconsumer/ProtocolWriter", "int8", "(I)V"⟩ : MethodName) prog_49_method_2_code 2 none :: ws) ({ frames := 3, cells := 1, slots := 128, locals := 46 } : Room)) (fun as_ U => as_ = #[(.ref wr), (.int v1)] ∧ Z.Warmed39 U.vm ∧ U.heap = h0) (fun _ _ _ _ _ => True) (fun _ U o U' => ∃ v L, o = .returned v ∧ own_Q_own_int8G Z wr v1 bf kb cc zz DD h0 n0 v U'.heap L ∧ FrameEnd U o U' L ({ frames := 3, cells := 1, slots := 128, locals := 46 } : Room).cells ({ frames := 3, cells := 1, slots := 128, locals := 46 } : Room).slots) := by
  refine MetFree.of_bodySF (plainFor_of_name own_pn0) hisR ?_
  intro p e s m args below meth c s₁ Bd hml0 hP hK
  obtain ⟨rfl, hZ, hh⟩ := hP
  have hx := Bd.exec
  have hby := Bd.bytes
  have hml : c.maxLocals = 2 := hml0
  have hown : s.vm.findClass "com/example/vigilant_consumer/vigilantconsumer/ProtocolWriter" = some m.cls := findClass_of_methodNamed Bd.named
  have hnm := (name_of_methodNamed Bd.named Bd.method).1
  have X0 : Stand p l e ({ frames := 3, cells := 1, slots := 128, locals := 46 } : Room) s m #[(.ref wr), (.int v1)] below meth c s₁ [] 0 0 := Stand.of_body Bd
  have e0 : s₁.heap = h0 := by rw [← hh, Bd.state]; rfl
  have N0 := Fr.nil n0
  have pre0 : ∀ t, Steps p.tables e below (s₁.setTop (mkF m 0 #[.val (.ref wr), .val (.int v1)] [])) t → Steps p.tables e below (s₁.setTop (entryFrame m #[(.ref wr), (.int v1)] 2)) t := fun t k => castTop (own_ef6 m wr v1) k
  have KP := Keep.refl h0 ([wr, bf] : List Addr)
  obtain ⟨cq1, q1, q1'⟩ := Ew.cell
  obtain ⟨_, _, ⟨T1, L1, k1, n1⟩, -, X1, ⟨Lc1, hQ1, l1, y1, z1⟩, st1⟩ := X0.privateBack hx (y := (⟨"com/example/vigilant_consumer/vigilantconsumer/ProtocolWriter", "ensure", "(I)V"⟩ : MethodName)) hown (mvT hZ (hw _ (List.mem_of_getElem? (i := 36) rfl))) (mvT hZ (hw _ (List.mem_of_getElem? (i := 37) rfl))) (own_selP (mvT hZ (hw _ (List.mem_of_getElem? (i := 2) rfl))) (mvP hZ (hw _ (List.mem_of_getElem? (i := 38) rfl))) (mvT hZ (hw _ (List.mem_of_getElem? (i := 37) rfl))) (by decide)) (Cond.privateMethod_at (mvP hZ (hw _ (List.mem_of_getElem? (i := 38) rfl)) (args := #[]))) (mvT hZ (hw _ (List.mem_of_getElem? (i := 39) rfl))) (by decide) (backOf (W := 0) (own_ensG l Z a0 hw [] wr (1 : Int32) bf kb cc zz DD h0 n0 Z0 Ew Fb Fl Vb Eb gw gb hz hcc hcl (by decide) (by show _ + (1 : Int) ≤ 128; exact hn)) hZ (hw _ (List.mem_of_getElem? (i := 39) rfl)) (hw _ (List.mem_of_getElem? (i := 3) rfl)) (by decide) (by decide)) (g := (mkF m 2 #[.val (.ref wr), .val (.int v1)] [(.int (1 : Int32)), (.ref wr)])) rfl (by rw [hml]; rfl) (Steps.refl _) (a := wr) (by rw [e0]; exact q1) q1' (argsL := [(.int (1 : Int32))]) (rest := []) (lenOf own_pd0 rfl) rfl (by show 2 * 0 + _ ≤ _; exact Nat.le_of_eq rfl) (hb hby own_d6_2) (fun _ _ => ⟨rfl, e0, (by decide : 0 + 1 ≤ _), (by decide : 0 + 128 ≤ _)⟩)
  dsimp only [Pt.U, Pt.locs, Pt.cells, Pt.slots] at X1 l1 y1 z1 st1 hQ1
  subst l1 y1 z1
  obtain ⟨b1, kq1, cg1, rfl, N1q, K1, Fb1, Fl1, V1, Q1, hb1, hcc1, hnd1⟩ := hQ1
  have g_b1 : n0 ≤ b1 := hb1.elim (fun q_ => by rw [q_]; exact gb) (fun q_ => Nat.le_trans Z0 q_)
  have in_b1 : b1 ∈ ([wr, bf] : List Addr) ∨ h0.size ≤ b1 := hb1.elim (fun q_ => Or.inl (by rw [q_]; exact List.mem_of_getElem? (i := 1) rfl)) (fun q_ => Or.inr (Nat.le_trans KP.1 q_))
  have N1 := Fr.app N0 N1q
  have ne_bf_wr : bf ≠ wr := Exa.ne Eb Ew (by decide)
  have Ew := Ew.keep K1
  have Vb := Vb.keep K1 (ninS ne_bf_wr nin0)
  have Eb := Eb.keep K1
  have Z2 := Nat.le_trans Z0 K1.1
  have KP := KP.trans K1 (allS (Or.inl (List.mem_of_getElem? (i := 0) rfl)) all0)
  have hc : (DD.length : Int) + 1 ≤ cg1.toInt := own_lei (m := 1) hz rfl hnd1 (by omega)
  have hs := (own_c64 hcc1).2
  obtain ⟨T3, X3, e3, st3⟩ := getF X1 hx hZ hown (host := "") (Or.inl (hw _ (List.mem_of_getElem? (i := 10) rfl))) Via.refl rfl Fb1 (g := (mkF m 6 #[.val (.ref wr), .val (.int v1)] [(.ref wr)])) rfl rfl (hb hby own_d6_6)
  obtain ⟨T4, X4, e4, st4⟩ := getF X3 hx hZ hown (host := "") (Or.inl (hw _ (List.mem_of_getElem? (i := 17) rfl))) Via.refl e3 Fl1 (g := (mkF m 11 #[.val (.ref wr), .val (.int v1)] [(.ref wr), (.ref wr), (.ref b1)])) rfl rfl (hb hby own_d6_11)
  obtain ⟨T5, h5, X5, e5, W5, st5⟩ := putF X4 hx hZ hown (host := "") (Or.inl (hw _ (List.mem_of_getElem? (i := 17) rfl))) Via.refl e4 Fl1 Ew (Or.inl (hw _ (List.mem_of_getElem? (i := 18) rfl))) (hw _ (List.mem_of_getElem? (i := 2) rfl)) (ty := .int) (by decide) rfl rfl (g := (mkF m 17 #[.val (.ref wr), .val (.int v1)] [(.int (zz + (1 : Int32))), (.ref wr), (.int zz), (.ref b1)])) rfl rfl (hb hby own_d6_17)
  have ne_b1_wr : b1 ≠ wr := Exa.ne Q1 Ew (by decide)
  have Ew := Ew.wr W5
  have Fb1 := Fb1.other W5 (Or.inr (slot_ne (Or.inl (hw _ (List.mem_of_getElem? (i := 11) rfl))) (Or.inl (hw _ (List.mem_of_getElem? (i := 18) rfl))) (by decide) (t := (.array .byte)) (t' := .int) (by decide) (by decide)))
  have V1 := V1.other W5 ne_b1_wr
  have Q1 := Q1.wr W5
  have Z6 : n0 ≤ h5.size := Nat.le_trans Z2 (Keep.of_wr W5).1
  have KP := KP.wr W5 (Or.inl (List.mem_of_getElem? (i := 0) rfl))
  have Fl1 := Fl1.same W5
  have N5 := Fr.snoc X5 N1 gw
  obtain ⟨cl7, Ar7, q7, S7, M7, H7, G7⟩ := id V1
  have hin7 : ¬ (zz < 0 ∨ cl7.slots.size ≤ (zz).toNatClampNeg) := inb_of S7 (own_ib hz (by have q_ := hc; (try simp only [List.length_append, List.length_cons, List.length_nil]); omega))
  obtain ⟨T8, h8, X8, e8, W8, st8⟩ := stB X5 hx hZ e5 Ar7 (j := zz) hin7 (g := (mkF m 22 #[.val (.ref wr), .val (.int v1)] [(.int (v1.toInt8.toInt32)), (.int zz), (.ref b1)])) rfl rfl (hb hby own_d6_22)
  have Ew := Ew.wr W8
  have Fb1 := Fb1.other W8 (Or.inl (Ne.symm ne_b1_wr))
  have Fl1 := Fl1.other W8 (Or.inl (Ne.symm ne_b1_wr))
  have Q1 := Q1.wr W8
  have Z9 : n0 ≤ h8.size := Nat.le_trans Z6 (Keep.of_wr W8).1
  have KP := KP.wr W8 in_b1
  have V1 : Arv Z h8 b1 kq1 .byte cg1 (List.map Value.int (DD ++ [(v1.toInt8.toInt32)])) (.int (0 : Int32)) := own_push Ar7 q7 S7 M7 H7 G7 W8 (own_ni _) hz
  have hz8 : (zz + (1 : Int32)).toInt = ((DD ++ [(v1.toInt8.toInt32)]).length : Int) := own_hz1 hz (by have q_ := hc; have q2_ := hs; (try simp only [List.length_append, List.length_cons, List.length_nil]); omega)
  have N8 := Fr.snoc X8 N5 g_b1
  obtain ⟨fs, hr, hrun, hended, hW, hsame⟩ := X8.leave (v := none) (fun _ => rfl)
  refine ⟨_, _, pre0 _ ?_, hrun, hended, _, _, rfl, ?_, ⟨_, rfl⟩, hW, hsame.mono (by decide) (by decide)⟩
  · show Steps p.tables e below (s₁.setTop (mkF m 0 #[.val (.ref wr), .val (.int v1)] [])) _
    refine XS.aloadN X0.here hx rfl (hb hby own_d6_0) rfl rfl ?_
    show Steps p.tables e below (s₁.setTop (mkF m 1 #[.val (.ref wr), .val (.int v1)] [(.ref wr)])) _
    refine XS.iconst X0.here hx rfl (hb hby own_d6_1) ?_
    show Steps p.tables e below (s₁.setTop (mkF m 2 #[.val (.ref wr), .val (.int v1)] [(.int (1 : Int32)), (.ref wr)])) _
    refine st1.trans ?_
    show Steps p.tables e below (T1.setTop (mkF m 5 #[.val (.ref wr), .val (.int v1)] [])) _
    refine XS.aloadN X1.here hx rfl (hb hby own_d6_5) rfl rfl ?_
    show Steps p.tables e below (T1.setTop (mkF m 6 #[.val (.ref wr), .val (.int v1)] [(.ref wr)])) _
    refine st3 _ ?_
    show Steps p.tables e below (T3.setTop (mkF m 9 #[.val (.ref wr), .val (.int v1)] [(.ref b1)])) _
    refine XS.aloadN X3.here hx rfl (hb hby own_d6_9) rfl rfl ?_
    show Steps p.tables e below (T3.setTop (mkF m 10 #[.val (.ref wr), .val (.int v1)] [(.ref wr), (.ref b1)])) _
    refine XS.dup X3.here hx rfl (hb hby own_d6_10) rfl rfl ?_
    show Steps p.tables e below (T3.setTop (mkF m 11 #[.val (.ref wr), .val (.int v1)] [(.ref wr), (.ref wr), (.ref b1)])) _
    refine st4 _ ?_
    show Steps p.tables e below (T4.setTop (mkF m 14 #[.val (.ref wr), .val (.int v1)] [(.int zz), (.ref wr), (.ref b1)])) _
    refine XS.dupX1 X4.here hx rfl (hb hby own_d6_14) rfl rfl rfl ?_
    show Steps p.tables e below (T4.setTop (mkF m 15 #[.val (.ref wr), .val (.int v1)] [(.int zz), (.ref wr), (.int zz), (.ref b1)])) _
    refine XS.iconst X4.here hx rfl (hb hby own_d6_15) ?_
    show Steps p.tables e below (T4.setTop (mkF m 16 #[.val (.ref wr), .val (.int v1)] [(.int (1 : Int32)), (.int zz), (.ref wr), (.int zz), (.ref b1)])) _
    refine XS.iadd X4.here hx rfl (hb hby own_d6_16) rfl ?_
    show Steps p.tables e below (T4.setTop (mkF m 17 #[.val (.ref wr), .val (.int v1)] [(.int (zz + (1 : Int32))), (.ref wr), (.int zz), (.ref b1)])) _
    refine st5 _ ?_
    show Steps p.tables e below (T5.setTop (mkF m 20 #[.val (.ref wr), .val (.int v1)] [(.int zz), (.ref b1)])) _
    refine XS.iloadN X5.here hx rfl (hb hby own_d6_20) rfl ?_
    show Steps p.tables e below (T5.setTop (mkF m 21 #[.val (.ref wr), .val (.int v1)] [(.int v1), (.int zz), (.ref b1)])) _
    refine XS.i2b X5.here hx rfl (hb hby own_d6_21) rfl ?_
    show Steps p.tables e below (T5.setTop (mkF m 22 #[.val (.ref wr), .val (.int v1)] [(.int (v1.toInt8.toInt32)), (.int zz), (.ref b1)])) _
    refine st8 _ ?_
    show Steps p.tables e below (T8.setTop (mkF m 23 #[.val (.ref wr), .val (.int v1)] [])) _
    exact X8.returnOut hx Bd.returns (hb hby own_d6_23) hr
  · show own_Q_own_int8G Z wr v1 bf kb cc zz DD h0 n0 _ T8.heap _
    rw [e8]
    exact ⟨b1, kq1, cg1, rfl, N8, KP, Fb1, Fl1, V1, Q1, hb1, hcc1, by (try simp only [List.length_append, List.length_cons, List.length_nil]); omega⟩
theorem own_d15_0 : decode prog_49_method_13_code 0 = .ok (.aload_n 0, 1) := by decide +kernel
theorem own_d15_1 : decode prog_49_method_13_code 1 = .ok (.aload_n 1, 1) := by decide +kernel
theorem own_d15_2 : decode prog_49_method_13_code 2 = .ok (.arraylength, 1) := by decide +kernel
theorem own_d15_3 : decode prog_49_method_13_code 3 = .ok (.invokevirtual 13, 3) := by decide +kernel
theorem own_d15_6 : decode prog_49_method_13_code 6 = .ok (.aload_n 1, 1) := by decide +kernel
theorem own_d15_7 : decode prog_49_method_13_code 7 = .ok (.iconst 0, 1) := by decide +kernel
theorem own_d15_8 : decode prog_49_method_13_code 8 = .ok (.aload_n 0, 1) := by decide +kernel
theorem own_d15_9 : decode prog_49_method_13_code 9 = .ok (.getfield 7, 3) := by decide +kernel
theorem own_d15_12 : decode prog_49_method_13_code 12 = .ok (.aload_n 0, 1) := by decide +kernel
theorem own_d15_13 : decode prog_49_method_13_code 13 = .ok (.getfield 17, 3) := by decide +kernel
theorem own_d15_16 : decode prog_49_method_13_code 16 = .ok (.aload_n 1, 1) := by decide +kernel
theorem own_d15_17 : decode prog_49_method_13_code 17 = .ok (.arraylength, 1) := by decide +kernel
theorem own_d15_18 : decode prog_49_method_13_code 18 = .ok (.invokestatic 160, 3) := by decide +kernel
theorem own_d15_21 : decode prog_49_method_13_code 21 = .ok (.aload_n 0, 1) := by decide +kernel
theorem own_d15_22 : decode prog_49_method_13_code 22 = .ok (.dup, 1) := by decide +kernel
theorem own_d15_23 : decode prog_49_method_13_code 23 = .ok (.getfield 17, 3) := by decide +kernel
theorem own_d15_26 : decode prog_49_method_13_code 26 = .ok (.aload_n 1, 1) := by decide +kernel
theorem own_d15_27 : decode prog_49_method_13_code 27 = .ok (.arraylength, 1) := by decide +kernel
theorem own_d15_28 : decode prog_49_method_13_code 28 = .ok (.iadd, 1) := by decide +kernel
theorem own_d15_29 : decode prog_49_method_13_code 29 = .ok (.putfield 17, 3) := by decide +kernel
theorem own_d15_32 : decode prog_49_method_13_code 32 = .ok (.return_, 1) := by decide +kernel
theorem own_ef15 (m : MethodId) (x0 : Addr) (x1 : Addr) : entryFrame m #[(.ref x0), (.ref x1)] 2 = mkF m 0 #[.val (.ref x0), .val (.ref x1)] [] := by first | (simp [entryFrame, mkF, argsToLocals, Value.category]; done) | rfl
def own_Q_own_append (Z : State) (wr : Addr) (pp : Addr) (bf : Addr) (kb : ClassId) (cc : Int32) (zz : Int32) (DD : List Int32) (kp : ClassId) (zp : Int32) (PP : List Int32) (h0 : Heap) (n0 : Nat) (v : Option Value) (h : Heap) (L : List Loc) : Prop := ∃ (b' : Addr) (k' : ClassId) (c' : Int32), v = none ∧ Fr n0 L ∧ Keep h0 h [wr, bf] ∧ Fld Z h wr "com/example/vigilant_consumer/vigilantconsumer/ProtocolWriter" "bytes" "[B" (.ref b') ∧ Fld Z h wr "com/example/vigilant_consumer/vigilantconsumer/ProtocolWriter" "length" "I" (.int (zz + zp)) ∧ Arv Z h b' k' .byte c' (List.map Value.int (DD ++ PP)) (.int (0 : Int32)) ∧ Exa Z h b' "[B" ∧ (b' = bf ∨ h0.size ≤ b') ∧ (c' = 64 ∨ c' = 128) ∧ ((DD ++ PP).length : Int) ≤ c'.toInt
set_option maxRecDepth 65536 in
set_option maxHeartbeats 40000000 in
theorem own_append (l : Launch) (Z : State) (a0 : Array Value) (hw : ∀ d ∈ tables_1, d.before a0 Z = true) (ws : List Jvm.Cond) (wr : Addr) (pp : Addr) (bf : Addr) (kb : ClassId) (cc : Int32) (zz : Int32) (DD : List Int32) (kp : ClassId) (zp : Int32) (PP : List Int32) (h0 : Heap) (n0 : Nat) (Z0 : n0 ≤ h0.size) (Ew : Exa Z h0 wr "com/example/vigilant_consumer/vigilantconsumer/ProtocolWriter") (Fb : Fld Z h0 wr "com/example/vigilant_consumer/vigilantconsumer/ProtocolWriter" "bytes" "[B" (.ref bf)) (Fl : Fld Z h0 wr "com/example/vigilant_consumer/vigilantconsumer/ProtocolWriter" "length" "I" (.int zz)) (Vb : Arv Z h0 bf kb .byte cc (List.map Value.int DD) (.int (0 : Int32))) (Eb : Exa Z h0 bf "[B") (gw : n0 ≤ wr) (gb : n0 ≤ bf) (hz : zz.toInt = (DD.length : Int)) (hcc : cc = 64 ∨ cc = 128) (hcl : (DD.length : Int) ≤ cc.toInt) (Vp : Arv Z h0 pp kp .byte zp (List.map Value.int PP) (.int (0 : Int32))) (hzp : zp.toInt = (PP.length : Int)) (npb : pp ≠ bf) (hn : (DD.length : Int) + PP.length ≤ 128) :
    MetFree l (⟨"com/example/vigilant_consumer/vigilantconsumer/ProtocolWriter", "append", "([B)V"⟩ : MethodName) (head1 (Jvm.Cond.code (⟨"com/example/vigilant_consumer/vigilantconsumer/ProtocolWriter", "append", "([B)V"⟩ : MethodName) prog_49_method_13_code 2 none :: ws) ({ frames := 3, cells := 1, slots := 128, locals := 46 } : Room)) (fun as_ U => as_ = #[(.ref wr), (.ref pp)] ∧ Z.Warmed39 U.vm ∧ U.heap = h0) (fun _ _ _ _ _ => True) (fun _ U o U' => ∃ v L, o = .returned v ∧ own_Q_own_append Z wr pp bf kb cc zz DD kp zp PP h0 n0 v U'.heap L ∧ FrameEnd U o U' L ({ frames := 3, cells := 1, slots := 128, locals := 46 } : Room).cells ({ frames := 3, cells := 1, slots := 128, locals := 46 } : Room).slots) := by
  refine MetFree.of_bodySF (plainFor_of_name own_pn0) hisR ?_
  intro p e s m args below meth c s₁ Bd hml0 hP hK
  obtain ⟨rfl, hZ, hh⟩ := hP
  have hx := Bd.exec
  have hby := Bd.bytes
  have hml : c.maxLocals = 2 := hml0
  have hown : s.vm.findClass "com/example/vigilant_consumer/vigilantconsumer/ProtocolWriter" = some m.cls := findClass_of_methodNamed Bd.named
  have hnm := (name_of_methodNamed Bd.named Bd.method).1
  have X0 : Stand p l e ({ frames := 3, cells := 1, slots := 128, locals := 46 } : Room) s m #[(.ref wr), (.ref pp)] below meth c s₁ [] 0 0 := Stand.of_body Bd
  have e0 : s₁.heap = h0 := by rw [← hh, Bd.state]; rfl
  have N0 := Fr.nil n0
  have pre0 : ∀ t, Steps p.tables e below (s₁.setTop (mkF m 0 #[.val (.ref wr), .val (.ref pp)] [])) t → Steps p.tables e below (s₁.setTop (entryFrame m #[(.ref wr), (.ref pp)] 2)) t := fun t k => castTop (own_ef15 m wr pp) k
  have KP := Keep.refl h0 ([wr, bf] : List Addr)
  obtain ⟨cl1, Ar1, q1, S1, M1, H1, G1⟩ := id Vp
  obtain ⟨cq2, q2, q2'⟩ := Ew.cell
  obtain ⟨_, _, ⟨T2, L2, k2, n2⟩, -, X2, ⟨Lc2, hQ2, l2, y2, z2⟩, st2⟩ := X0.privateBack hx (y := (⟨"com/example/vigilant_consumer/vigilantconsumer/ProtocolWriter", "ensure", "(I)V"⟩ : MethodName)) hown (mvT hZ (hw _ (List.mem_of_getElem? (i := 36) rfl))) (mvT hZ (hw _ (List.mem_of_getElem? (i := 37) rfl))) (own_selP (mvT hZ (hw _ (List.mem_of_getElem? (i := 2) rfl))) (mvP hZ (hw _ (List.mem_of_getElem? (i := 38) rfl))) (mvT hZ (hw _ (List.mem_of_getElem? (i := 37) rfl))) (by decide)) (Cond.privateMethod_at (mvP hZ (hw _ (List.mem_of_getElem? (i := 38) rfl)) (args := #[]))) (mvT hZ (hw _ (List.mem_of_getElem? (i := 39) rfl))) (by decide) (backOf (W := 0) (own_ensG l Z a0 hw [] wr zp bf kb cc zz DD h0 n0 Z0 Ew Fb Fl Vb Eb gw gb hz hcc hcl (by rw [hzp]; omega) (by rw [hzp]; exact hn)) hZ (hw _ (List.mem_of_getElem? (i := 39) rfl)) (hw _ (List.mem_of_getElem? (i := 3) rfl)) (by decide) (by decide)) (g := (mkF m 3 #[.val (.ref wr), .val (.ref pp)] [(.int zp), (.ref wr)])) rfl (by rw [hml]; rfl) (Steps.refl _) (a := wr) (by rw [e0]; exact q2) q2' (argsL := [(.int zp)]) (rest := []) (lenOf own_pd0 rfl) rfl (by show 2 * 0 + _ ≤ _; exact Nat.le_of_eq rfl) (hb hby own_d15_3) (fun _ _ => ⟨rfl, e0, (by decide : 0 + 1 ≤ _), (by decide : 0 + 128 ≤ _)⟩)
  dsimp only [Pt.U, Pt.locs, Pt.cells, Pt.slots] at X2 l2 y2 z2 st2 hQ2
  subst l2 y2 z2
  obtain ⟨b2, kq2, cg2, rfl, N2q, K2, Fb2, Fl2, V2, Q2, hb2, hcc2, hnd2⟩ := hQ2
  have g_b2 : n0 ≤ b2 := hb2.elim (fun q_ => by rw [q_]; exact gb) (fun q_ => Nat.le_trans Z0 q_)
  have in_b2 : b2 ∈ ([wr, bf] : List Addr) ∨ h0.size ≤ b2 := hb2.elim (fun q_ => Or.inl (by rw [q_]; exact List.mem_of_getElem? (i := 1) rfl)) (fun q_ => Or.inr (Nat.le_trans KP.1 q_))
  have ne_pp_b2 : pp ≠ b2 := hb2.elim (fun q_ => by rw [q_]; exact npb) (fun q_ => Nat.ne_of_lt (Nat.lt_of_lt_of_le Vp.lt q_))
  have N2 := Fr.app N0 N2q
  have ne_bf_wr : bf ≠ wr := Exa.ne Eb Ew (by decide)
  have ne_wr_pp : wr ≠ pp := Exa.neArv Ew Vp (hw _ (List.mem_of_getElem? (i := 2) rfl))
  have Ew := Ew.keep K2
  have Vb := Vb.keep K2 (ninS ne_bf_wr nin0)
  have Eb := Eb.keep K2
  have Vp := Vp.keep K2 (ninS (Ne.symm ne_wr_pp) nin0)
  have Z3 := Nat.le_trans Z0 K2.1
  have KP := KP.trans K2 (allS (Or.inl (List.mem_of_getElem? (i := 0) rfl)) all0)
  have hc : (DD.length : Int) + PP.length ≤ cg2.toInt := own_lei hz hzp hnd2 (by omega)
  obtain ⟨T4, X4, e4, st4⟩ := getF X2 hx hZ hown (host := "") (Or.inl (hw _ (List.mem_of_getElem? (i := 10) rfl))) Via.refl rfl Fb2 (g := (mkF m 9 #[.val (.ref wr), .val (.ref pp)] [(.ref wr), (.int (0 : Int32)), (.ref pp)])) rfl rfl (hb hby own_d15_9)
  obtain ⟨T5, X5, e5, st5⟩ := getF X4 hx hZ hown (host := "") (Or.inl (hw _ (List.mem_of_getElem? (i := 17) rfl))) Via.refl e4 Fl2 (g := (mkF m 13 #[.val (.ref wr), .val (.ref pp)] [(.ref wr), (.ref b2), (.int (0 : Int32)), (.ref pp)])) rfl rfl (hb hby own_d15_13)
  obtain ⟨cl6, Ar6, q6, S6, M6, H6, G6⟩ := id Vp
  obtain ⟨T7, h7, L7, X7, e7, N7, K7, V7, st7⟩ := cpA X5 hx hZ hown (hw _ (List.mem_of_getElem? (i := 75) rfl)) (hw _ (List.mem_of_getElem? (i := 30) rfl)) (hw _ (List.mem_of_getElem? (i := 28) rfl)) (hw _ (List.mem_of_getElem? (i := 29) rfl)) e5 Vp (Arv.pad (vs' := List.map Value.int DD ++ List.replicate PP.length (Value.int 0)) V2 (pad_rep _ _ _)) (Or.inl ⟨rfl, rfl⟩) (sp := (0 : Int32)) (dp := zz) (nn := zp) (by decide) (own_n0 hz) (own_n0 hzp) (Nat.le_of_eq (Nat.zero_add _)) (own_ac5 hz hzp hc) rfl (by rw [own_tn hz, own_tn hzp]; simp) N2 g_b2 (g := (mkF m 18 #[.val (.ref wr), .val (.ref pp)] [(.int zp), (.int zz), (.ref b2), (.int (0 : Int32)), (.ref pp)])) rfl (by rw [hml]; rfl) rfl (hb hby own_d15_18) (by decide) (W := 0) (by show 2 * 0 + _ ≤ _; exact Nat.le_of_eq rfl) (by decide)
  have ne_wr_b2 : wr ≠ b2 := Exa.neArv Ew V2 (hw _ (List.mem_of_getElem? (i := 2) rfl))
  have Ew := Ew.keep K7
  have Vp := Vp.keep K7 (ninS ne_pp_b2 nin0)
  have Fb2 := Fb2.keep K7 (ninS ne_wr_b2 nin0)
  have Fl2 := Fl2.keep K7 (ninS ne_wr_b2 nin0)
  have Q2 := Q2.keep K7
  have Z8 := Nat.le_trans Z3 K7.1
  have KP := KP.trans K7 (allS in_b2 all0)
  have V_b2_ : Arv Z h7 b2 kq2 .byte cg2 (List.map Value.int (DD ++ PP)) (.int (0 : Int32)) := (own_cat hz hzp) ▸ V7
  obtain ⟨T9, X9, e9, st9⟩ := getF X7 hx hZ hown (host := "") (Or.inl (hw _ (List.mem_of_getElem? (i := 17) rfl))) Via.refl e7 Fl2 (g := (mkF m 23 #[.val (.ref wr), .val (.ref pp)] [(.ref wr), (.ref wr)])) rfl rfl (hb hby own_d15_23)
  obtain ⟨cl10, Ar10, q10, S10, M10, H10, G10⟩ := id Vp
  obtain ⟨T11, h11, X11, e11, W11, st11⟩ := putF X9 hx hZ hown (host := "") (Or.inl (hw _ (List.mem_of_getElem? (i := 17) rfl))) Via.refl e9 Fl2 Ew (Or.inl (hw _ (List.mem_of_getElem? (i := 18) rfl))) (hw _ (List.mem_of_getElem? (i := 2) rfl)) (ty := .int) (by decide) rfl rfl (g := (mkF m 29 #[.val (.ref wr), .val (.ref pp)] [(.int (zz + zp)), (.ref wr)])) rfl rfl (hb hby own_d15_29)
  have Ew := Ew.wr W11
  have Vp := Vp.other W11 (Ne.symm ne_wr_pp)
  have Fb2 := Fb2.other W11 (Or.inr (slot_ne (Or.inl (hw _ (List.mem_of_getElem? (i := 11) rfl))) (Or.inl (hw _ (List.mem_of_getElem? (i := 18) rfl))) (by decide) (t := (.array .byte)) (t' := .int) (by decide) (by decide)))
  have Q2 := Q2.wr W11
  have V_b2_ := V_b2_.other W11 (Ne.symm ne_wr_b2)
  have Z12 : n0 ≤ h11.size := Nat.le_trans Z8 (Keep.of_wr W11).1
  have KP := KP.wr W11 (Or.inl (List.mem_of_getElem? (i := 0) rfl))
  have Fl2 := Fl2.same W11
  have N11 := Fr.snoc X11 N7 gw
  obtain ⟨fs, hr, hrun, hended, hW, hsame⟩ := X11.leave (v := none) (fun _ => rfl)
  refine ⟨_, _, pre0 _ ?_, hrun, hended, _, _, rfl, ?_, ⟨_, rfl⟩, hW, hsame.mono (by decide) (by decide)⟩
  · show Steps p.tables e below (s₁.setTop (mkF m 0 #[.val (.ref wr), .val (.ref pp)] [])) _
    refine XS.aloadN X0.here hx rfl (hb hby own_d15_0) rfl rfl ?_
    show Steps p.tables e below (s₁.setTop (mkF m 1 #[.val (.ref wr), .val (.ref pp)] [(.ref wr)])) _
    refine XS.aloadN X0.here hx rfl (hb hby own_d15_1) rfl rfl ?_
    show Steps p.tables e below (s₁.setTop (mkF m 2 #[.val (.ref wr), .val (.ref pp)] [(.ref pp), (.ref wr)])) _
    refine X0.arraylength hx (by rw [e0]; exact Ar1.1) (State.isArrayOf_alike hZ.alike Ar1.2.1) (g := (mkF m 2 #[.val (.ref wr), .val (.ref pp)] [(.ref pp), (.ref wr)])) rfl rfl (hb hby own_d15_2) _ ?_
    rw [len_of S1 M1]
    show Steps p.tables e below (s₁.setTop (mkF m 3 #[.val (.ref wr), .val (.ref pp)] [(.int zp), (.ref wr)])) _
    refine st2.trans ?_
    show Steps p.tables e below (T2.setTop (mkF m 6 #[.val (.ref wr), .val (.ref pp)] [])) _
    refine XS.aloadN X2.here hx rfl (hb hby own_d15_6) rfl rfl ?_
    show Steps p.tables e below (T2.setTop (mkF m 7 #[.val (.ref wr), .val (.ref pp)] [(.ref pp)])) _
    refine XS.iconst X2.here hx rfl (hb hby own_d15_7) ?_
    show Steps p.tables e below (T2.setTop (mkF m 8 #[.val (.ref wr), .val (.ref pp)] [(.int (0 : Int32)), (.ref pp)])) _
    refine XS.aloadN X2.here hx rfl (hb hby own_d15_8) rfl rfl ?_
    show Steps p.tables e below (T2.setTop (mkF m 9 #[.val (.ref wr), .val (.ref pp)] [(.ref wr), (.int (0 : Int32)), (.ref pp)])) _
    refine st4 _ ?_
    show Steps p.tables e below (T4.setTop (mkF m 12 #[.val (.ref wr), .val (.ref pp)] [(.ref b2), (.int (0 : Int32)), (.ref pp)])) _
    refine XS.aloadN X4.here hx rfl (hb hby own_d15_12) rfl rfl ?_
    show Steps p.tables e below (T4.setTop (mkF m 13 #[.val (.ref wr), .val (.ref pp)] [(.ref wr), (.ref b2), (.int (0 : Int32)), (.ref pp)])) _
    refine st5 _ ?_
    show Steps p.tables e below (T5.setTop (mkF m 16 #[.val (.ref wr), .val (.ref pp)] [(.int zz), (.ref b2), (.int (0 : Int32)), (.ref pp)])) _
    refine XS.aloadN X5.here hx rfl (hb hby own_d15_16) rfl rfl ?_
    show Steps p.tables e below (T5.setTop (mkF m 17 #[.val (.ref wr), .val (.ref pp)] [(.ref pp), (.int zz), (.ref b2), (.int (0 : Int32)), (.ref pp)])) _
    refine X5.arraylength hx (by rw [e5]; exact Ar6.1) (State.isArrayOf_alike hZ.alike Ar6.2.1) (g := (mkF m 17 #[.val (.ref wr), .val (.ref pp)] [(.ref pp), (.int zz), (.ref b2), (.int (0 : Int32)), (.ref pp)])) rfl rfl (hb hby own_d15_17) _ ?_
    rw [len_of S6 M6]
    show Steps p.tables e below (T5.setTop (mkF m 18 #[.val (.ref wr), .val (.ref pp)] [(.int zp), (.int zz), (.ref b2), (.int (0 : Int32)), (.ref pp)])) _
    refine st7 _ ?_
    show Steps p.tables e below (T7.setTop (mkF m 21 #[.val (.ref wr), .val (.ref pp)] [])) _
    refine XS.aloadN X7.here hx rfl (hb hby own_d15_21) rfl rfl ?_
    show Steps p.tables e below (T7.setTop (mkF m 22 #[.val (.ref wr), .val (.ref pp)] [(.ref wr)])) _
    refine XS.dup X7.here hx rfl (hb hby own_d15_22) rfl rfl ?_
    show Steps p.tables e below (T7.setTop (mkF m 23 #[.val (.ref wr), .val (.ref pp)] [(.ref wr), (.ref wr)])) _
    refine st9 _ ?_
    show Steps p.tables e below (T9.setTop (mkF m 26 #[.val (.ref wr), .val (.ref pp)] [(.int zz), (.ref wr)])) _
    refine XS.aloadN X9.here hx rfl (hb hby own_d15_26) rfl rfl ?_
    show Steps p.tables e below (T9.setTop (mkF m 27 #[.val (.ref wr), .val (.ref pp)] [(.ref pp), (.int zz), (.ref wr)])) _
    refine X9.arraylength hx (by rw [e9]; exact Ar10.1) (State.isArrayOf_alike hZ.alike Ar10.2.1) (g := (mkF m 27 #[.val (.ref wr), .val (.ref pp)] [(.ref pp), (.int zz), (.ref wr)])) rfl rfl (hb hby own_d15_27) _ ?_
    rw [len_of S10 M10]
    show Steps p.tables e below (T9.setTop (mkF m 28 #[.val (.ref wr), .val (.ref pp)] [(.int zp), (.int zz), (.ref wr)])) _
    refine XS.iadd X9.here hx rfl (hb hby own_d15_28) rfl ?_
    show Steps p.tables e below (T9.setTop (mkF m 29 #[.val (.ref wr), .val (.ref pp)] [(.int (zz + zp)), (.ref wr)])) _
    refine st11 _ ?_
    show Steps p.tables e below (T11.setTop (mkF m 32 #[.val (.ref wr), .val (.ref pp)] [])) _
    exact X11.returnOut hx Bd.returns (hb hby own_d15_32) hr
  · show own_Q_own_append Z wr pp bf kb cc zz DD kp zp PP h0 n0 _ T11.heap _
    rw [e11]
    exact ⟨b2, kq2, cg2, rfl, N11, KP, Fb2, Fl2, V_b2_, Q2, hb2, hcc2, by (try simp only [List.length_append, List.length_cons, List.length_nil]); omega⟩
theorem own_pd3 : parseMethodDescriptor "([B)V" = some ⟨[(.array .byte)], none⟩ := by decide +kernel
theorem own_d14_0 : decode prog_49_method_8_code 0 = .ok (.aload_n 0, 1) := by decide +kernel
theorem own_d14_1 : decode prog_49_method_8_code 1 = .ok (.aload_n 1, 1) := by decide +kernel
theorem own_d14_2 : decode prog_49_method_8_code 2 = .ok (.arraylength, 1) := by decide +kernel
theorem own_d14_3 : decode prog_49_method_8_code 3 = .ok (.invokevirtual 54, 3) := by decide +kernel
theorem own_d14_6 : decode prog_49_method_8_code 6 = .ok (.aload_n 0, 1) := by decide +kernel
theorem own_d14_7 : decode prog_49_method_8_code 7 = .ok (.aload_n 1, 1) := by decide +kernel
theorem own_d14_8 : decode prog_49_method_8_code 8 = .ok (.invokevirtual 47, 3) := by decide +kernel
theorem own_d14_11 : decode prog_49_method_8_code 11 = .ok (.return_, 1) := by decide +kernel
theorem own_ef14 (m : MethodId) (x0 : Addr) (x1 : Addr) : entryFrame m #[(.ref x0), (.ref x1)] 2 = mkF m 0 #[.val (.ref x0), .val (.ref x1)] [] := by first | (simp [entryFrame, mkF, argsToLocals, Value.category]; done) | rfl
def own_Q_own_bytes (Z : State) (wr : Addr) (pp : Addr) (bf : Addr) (kb : ClassId) (cc : Int32) (zz : Int32) (DD : List Int32) (kp : ClassId) (zp : Int32) (PP : List Int32) (h0 : Heap) (n0 : Nat) (v : Option Value) (h : Heap) (L : List Loc) : Prop := ∃ (b' : Addr) (k' : ClassId) (c' : Int32), v = none ∧ Fr n0 L ∧ Keep h0 h [wr, bf] ∧ Fld Z h wr "com/example/vigilant_consumer/vigilantconsumer/ProtocolWriter" "bytes" "[B" (.ref b') ∧ Fld Z h wr "com/example/vigilant_consumer/vigilantconsumer/ProtocolWriter" "length" "I" (.int (zz + ((4 : Int32) + zp))) ∧ Arv Z h b' k' .byte c' (List.map Value.int (DD ++ (own_l32 zp ++ PP))) (.int (0 : Int32)) ∧ Exa Z h b' "[B" ∧ (b' = bf ∨ h0.size ≤ b') ∧ (c' = 64 ∨ c' = 128) ∧ ((DD ++ (own_l32 zp ++ PP)).length : Int) ≤ c'.toInt
set_option maxRecDepth 65536 in
set_option maxHeartbeats 40000000 in
theorem own_bytes (l : Launch) (Z : State) (a0 : Array Value) (hw : ∀ d ∈ tables_1, d.before a0 Z = true) (ws : List Jvm.Cond) (wr : Addr) (pp : Addr) (bf : Addr) (kb : ClassId) (cc : Int32) (zz : Int32) (DD : List Int32) (kp : ClassId) (zp : Int32) (PP : List Int32) (h0 : Heap) (n0 : Nat) (Z0 : n0 ≤ h0.size) (Ew : Exa Z h0 wr "com/example/vigilant_consumer/vigilantconsumer/ProtocolWriter") (Fb : Fld Z h0 wr "com/example/vigilant_consumer/vigilantconsumer/ProtocolWriter" "bytes" "[B" (.ref bf)) (Fl : Fld Z h0 wr "com/example/vigilant_consumer/vigilantconsumer/ProtocolWriter" "length" "I" (.int zz)) (Vb : Arv Z h0 bf kb .byte cc (List.map Value.int DD) (.int (0 : Int32))) (Eb : Exa Z h0 bf "[B") (gw : n0 ≤ wr) (gb : n0 ≤ bf) (hz : zz.toInt = (DD.length : Int)) (hcc : cc = 64 ∨ cc = 128) (hcl : (DD.length : Int) ≤ cc.toInt) (Vp : Arv Z h0 pp kp .byte zp (List.map Value.int PP) (.int (0 : Int32))) (hzp : zp.toInt = (PP.length : Int)) (npb : pp ≠ bf) (hc4 : (DD.length : Int) + 4 ≤ cc.toInt) (hn : (DD.length : Int) + (4 + PP.length) ≤ 128) :
    MetFree l (⟨"com/example/vigilant_consumer/vigilantconsumer/ProtocolWriter", "bytes", "([B)V"⟩ : MethodName) (head1 (Jvm.Cond.code (⟨"com/example/vigilant_consumer/vigilantconsumer/ProtocolWriter", "bytes", "([B)V"⟩ : MethodName) prog_49_method_8_code 2 none :: ws) ({ frames := 4, cells := 1, slots := 128, locals := 59 } : Room)) (fun as_ U => as_ = #[(.ref wr), (.ref pp)] ∧ Z.Warmed39 U.vm ∧ U.heap = h0) (fun _ _ _ _ _ => True) (fun _ U o U' => ∃ v L, o = .returned v ∧ own_Q_own_bytes Z wr pp bf kb cc zz DD kp zp PP h0 n0 v U'.heap L ∧ FrameEnd U o U' L ({ frames := 4, cells := 1, slots := 128, locals := 59 } : Room).cells ({ frames := 4, cells := 1, slots := 128, locals := 59 } : Room).slots) := by
  refine MetFree.of_bodySF (plainFor_of_name own_pn0) hisR ?_
  intro p e s m args below meth c s₁ Bd hml0 hP hK
  obtain ⟨rfl, hZ, hh⟩ := hP
  have hx := Bd.exec
  have hby := Bd.bytes
  have hml : c.maxLocals = 2 := hml0
  have hown : s.vm.findClass "com/example/vigilant_consumer/vigilantconsumer/ProtocolWriter" = some m.cls := findClass_of_methodNamed Bd.named
  have hnm := (name_of_methodNamed Bd.named Bd.method).1
  have X0 : Stand p l e ({ frames := 4, cells := 1, slots := 128, locals := 59 } : Room) s m #[(.ref wr), (.ref pp)] below meth c s₁ [] 0 0 := Stand.of_body Bd
  have e0 : s₁.heap = h0 := by rw [← hh, Bd.state]; rfl
  have N0 := Fr.nil n0
  have pre0 : ∀ t, Steps p.tables e below (s₁.setTop (mkF m 0 #[.val (.ref wr), .val (.ref pp)] [])) t → Steps p.tables e below (s₁.setTop (entryFrame m #[(.ref wr), (.ref pp)] 2)) t := fun t k => castTop (own_ef14 m wr pp) k
  have KP := Keep.refl h0 ([wr, bf] : List Addr)
  obtain ⟨cl1, Ar1, q1, S1, M1, H1, G1⟩ := id Vp
  obtain ⟨cq2, kq2, q2a, q2b, q2c⟩ := isOf hZ e0 Ew
  obtain ⟨_, _, ⟨T2, L2, k2, n2⟩, -, X2, ⟨Lc2, hQ2, l2, y2, z2⟩, st2⟩ := X0.virtualBack hx (y := (⟨"com/example/vigilant_consumer/vigilantconsumer/ProtocolWriter", "int32", "(I)V"⟩ : MethodName)) (z := (⟨"com/example/vigilant_consumer/vigilantconsumer/ProtocolWriter", "int32", "(I)V"⟩ : MethodName)) hown (mvT hZ (hw _ (List.mem_of_getElem? (i := 70) rfl))) (mvT hZ (hw _ (List.mem_of_getElem? (i := 46) rfl))) (notFace_of_selects (args := #[]) (mvT hZ (hw _ (List.mem_of_getElem? (i := 48) rfl)))) (mvT hZ (hw _ (List.mem_of_getElem? (i := 48) rfl))) (mvT hZ (hw _ (List.mem_of_getElem? (i := 47) rfl))) (by decide) (backOf (W := 0) (own_int32N l Z a0 hw [] wr zp bf kb cc zz DD h0 n0 Z0 Ew Fb Fl Vb gw gb hz hc4 (own_c64 hcc).2) hZ (hw _ (List.mem_of_getElem? (i := 49) rfl)) (hw _ (List.mem_of_getElem? (i := 3) rfl)) (by decide) (by decide)) q2a q2c (g := (mkF m 3 #[.val (.ref wr), .val (.ref pp)] [(.int zp), (.ref wr)])) rfl (by rw [hml]; rfl) (Steps.refl _) (argsL := [(.int zp)]) (rest := []) (lenOf own_pd0 rfl) rfl (by show 2 * 0 + _ ≤ _; exact Nat.le_of_eq rfl) (hb hby own_d14_3) (fun _ _ => ⟨rfl, e0, (by decide : 0 + 0 ≤ _), (by decide : 0 + 0 ≤ _)⟩)
  dsimp only [Pt.U, Pt.locs, Pt.cells, Pt.slots] at X2 l2 y2 z2 st2 hQ2
  subst l2 y2 z2
  obtain ⟨rfl, N2q, K2, Fb2, Fl2, Vb2⟩ := hQ2
  have N2 := Fr.app N0 N2q
  have ne_wr_pp : wr ≠ pp := Exa.neArv Ew Vp (hw _ (List.mem_of_getElem? (i := 2) rfl))
  have Ew := Ew.keep K2
  have Eb := Eb.keep K2
  have Vp := Vp.keep K2 (ninS (Ne.symm ne_wr_pp) (ninS npb nin0))
  have Z3 := Nat.le_trans Z0 K2.1
  have KP := KP.trans K2 (allS (Or.inl (List.mem_of_getElem? (i := 0) rfl)) (allS (Or.inl (List.mem_of_getElem? (i := 1) rfl)) all0))
  have KPz := KP.1
  have hz4 : (zz + (4 : Int32)).toInt = ((DD ++ own_l32 zp).length : Int) := own_hzA hz (show (4 : Int32).toInt = ((own_l32 zp).length : Int) from rfl) (by show _ + (4 : Int) ≤ 1000; omega)
  have hl4 : ((DD ++ own_l32 zp).length : Int) = (DD.length : Int) + 4 := by rw [List.length_append]; rfl
  obtain ⟨cq4, q4, q4'⟩ := Ew.cell
  obtain ⟨_, _, ⟨T4, L4, k4, n4⟩, -, X4, ⟨Lc4, hQ4, l4, y4, z4⟩, st4⟩ := X2.privateBack hx (y := (⟨"com/example/vigilant_consumer/vigilantconsumer/ProtocolWriter", "append", "([B)V"⟩ : MethodName)) hown (mvT hZ (hw _ (List.mem_of_getElem? (i := 71) rfl))) (mvT hZ (hw _ (List.mem_of_getElem? (i := 72) rfl))) (own_selP (mvT hZ (hw _ (List.mem_of_getElem? (i := 2) rfl))) (mvP hZ (hw _ (List.mem_of_getElem? (i := 73) rfl))) (mvT hZ (hw _ (List.mem_of_getElem? (i := 72) rfl))) (by decide)) (Cond.privateMethod_at (mvP hZ (hw _ (List.mem_of_getElem? (i := 73) rfl)) (args := #[]))) (mvT hZ (hw _ (List.mem_of_getElem? (i := 74) rfl))) (by decide) (backOf (W := 0) (own_append l Z a0 hw [] wr pp bf kb cc (zz + (4 : Int32)) (DD ++ own_l32 zp) kp zp PP T2.heap n0 Z3 Ew Fb2 Fl2 Vb2 Eb gw gb hz4 hcc (by rw [hl4]; exact hc4) Vp hzp npb (by rw [hl4]; omega)) hZ (hw _ (List.mem_of_getElem? (i := 74) rfl)) (hw _ (List.mem_of_getElem? (i := 3) rfl)) (by decide) (by decide)) (g := (mkF m 8 #[.val (.ref wr), .val (.ref pp)] [(.ref pp), (.ref wr)])) rfl (by rw [hml]; rfl) (Steps.refl _) (a := wr) q4 q4' (argsL := [(.ref pp)]) (rest := []) (lenOf own_pd3 rfl) rfl (by show 2 * 0 + _ ≤ _; exact Nat.le_of_eq rfl) (hb hby own_d14_8) (fun _ _ => ⟨rfl, rfl, (by decide : 0 + 1 ≤ _), (by decide : 0 + 128 ≤ _)⟩)
  dsimp only [Pt.U, Pt.locs, Pt.cells, Pt.slots] at X4 l4 y4 z4 st4 hQ4
  subst l4 y4 z4
  obtain ⟨b4, kq4, cg4, rfl, N4q, K4, Fb4, Fl4, V4, Q4, hb4, hcc4, hnd4⟩ := hQ4
  have g_b4 : n0 ≤ b4 := hb4.elim (fun q_ => by rw [q_]; exact gb) (fun q_ => Nat.le_trans Z3 q_)
  have in_b4 : b4 ∈ ([wr, bf] : List Addr) ∨ h0.size ≤ b4 := hb4.elim (fun q_ => Or.inl (by rw [q_]; exact List.mem_of_getElem? (i := 1) rfl)) (fun q_ => Or.inr (Nat.le_trans KP.1 q_))
  have N4 := Fr.app N2 N4q
  have Ew := Ew.keep K4
  have Eb := Eb.keep K4
  have Vp := Vp.keep K4 (ninS (Ne.symm ne_wr_pp) (ninS npb nin0))
  have Z5 := Nat.le_trans Z3 K4.1
  have KP := KP.trans K4 (allS (Or.inl (List.mem_of_getElem? (i := 0) rfl)) (allS (Or.inl (List.mem_of_getElem? (i := 1) rfl)) all0))
  have hb4' : b4 = bf ∨ h0.size ≤ b4 := hb4.imp id (fun q_ => Nat.le_trans KPz q_)
  obtain ⟨fs, hr, hrun, hended, hW, hsame⟩ := X4.leave (v := none) (fun _ => rfl)
  refine ⟨_, _, pre0 _ ?_, hrun, hended, _, _, rfl, ?_, ⟨_, rfl⟩, hW, hsame.mono (by decide) (by decide)⟩
  · show Steps p.tables e below (s₁.setTop (mkF m 0 #[.val (.ref wr), .val (.ref pp)] [])) _
    refine XS.aloadN X0.here hx rfl (hb hby own_d14_0) rfl rfl ?_
    show Steps p.tables e below (s₁.setTop (mkF m 1 #[.val (.ref wr), .val (.ref pp)] [(.ref wr)])) _
    refine XS.aloadN X0.here hx rfl (hb hby own_d14_1) rfl rfl ?_
    show Steps p.tables e below (s₁.setTop (mkF m 2 #[.val (.ref wr), .val (.ref pp)] [(.ref pp), (.ref wr)])) _
    refine X0.arraylength hx (by rw [e0]; exact Ar1.1) (State.isArrayOf_alike hZ.alike Ar1.2.1) (g := (mkF m 2 #[.val (.ref wr), .val (.ref pp)] [(.ref pp), (.ref wr)])) rfl rfl (hb hby own_d14_2) _ ?_
    rw [len_of S1 M1]
    show Steps p.tables e below (s₁.setTop (mkF m 3 #[.val (.ref wr), .val (.ref pp)] [(.int zp), (.ref wr)])) _
    refine st2.trans ?_
    show Steps p.tables e below (T2.setTop (mkF m 6 #[.val (.ref wr), .val (.ref pp)] [])) _
    refine XS.aloadN X2.here hx rfl (hb hby own_d14_6) rfl rfl ?_
    show Steps p.tables e below (T2.setTop (mkF m 7 #[.val (.ref wr), .val (.ref pp)] [(.ref wr)])) _
    refine XS.aloadN X2.here hx rfl (hb hby own_d14_7) rfl rfl ?_
    show Steps p.tables e below (T2.setTop (mkF m 8 #[.val (.ref wr), .val (.ref pp)] [(.ref pp), (.ref wr)])) _
    refine st4.trans ?_
    show Steps p.tables e below (T4.setTop (mkF m 11 #[.val (.ref wr), .val (.ref pp)] [])) _
    exact X4.returnOut hx Bd.returns (hb hby own_d14_11) hr
  · show own_Q_own_bytes Z wr pp bf kb cc zz DD kp zp PP h0 n0 _ T4.heap _
    exact ⟨b4, kq4, cg4, rfl, N4, KP, Fb4, (Int32.add_assoc zz (4 : Int32) zp) ▸ Fl4, (List.append_assoc DD (own_l32 zp) PP) ▸ V4, Q4, hb4', hcc4, (List.append_assoc DD (own_l32 zp) PP) ▸ hnd4⟩
theorem own_d1_0 : decode prog_49_method_1_code 0 = .ok (.aload_n 0, 1) := by decide +kernel
theorem own_d1_1 : decode prog_49_method_1_code 1 = .ok (.invokespecial 1, 3) := by decide +kernel
theorem own_d1_4 : decode prog_49_method_1_code 4 = .ok (.aload_n 0, 1) := by decide +kernel
theorem own_d1_5 : decode prog_49_method_1_code 5 = .ok (.bipush 64, 2) := by decide +kernel
theorem own_d1_7 : decode prog_49_method_1_code 7 = .ok (.newarray .byte, 2) := by decide +kernel
theorem own_d1_9 : decode prog_49_method_1_code 9 = .ok (.putfield 7, 3) := by decide +kernel
theorem own_d1_12 : decode prog_49_method_1_code 12 = .ok (.return_, 1) := by decide +kernel
theorem own_ef1 (m : MethodId) (x0 : Addr) : entryFrame m #[(.ref x0)] 1 = mkF m 0 #[.val (.ref x0)] [] := by first | (simp [entryFrame, mkF, argsToLocals, Value.category]; done) | rfl
def own_Q_own_init (Z : State) (wr : Addr) (h0 : Heap) (n0 : Nat) (v : Option Value) (h : Heap) (L : List Loc) : Prop := ∃ (b' : Addr) (k' : ClassId), v = none ∧ Fr n0 L ∧ Keep h0 h [wr] ∧ Fld Z h wr "com/example/vigilant_consumer/vigilantconsumer/ProtocolWriter" "bytes" "[B" (.ref b') ∧ Fld Z h wr "com/example/vigilant_consumer/vigilantconsumer/ProtocolWriter" "length" "I" (.int (0 : Int32)) ∧ Arv Z h b' k' .byte (64 : Int32) (List.map Value.int ([] : List Int32)) (.int (0 : Int32)) ∧ Exa Z h b' "[B" ∧ h0.size ≤ b'
set_option maxRecDepth 65536 in
set_option maxHeartbeats 40000000 in
theorem own_init (l : Launch) (Z : State) (a0 : Array Value) (hw : ∀ d ∈ tables_1, d.before a0 Z = true) (ws : List Jvm.Cond) (wr : Addr) (h0 : Heap) (n0 : Nat) (Z0 : n0 ≤ h0.size) (Ew : Exa Z h0 wr "com/example/vigilant_consumer/vigilantconsumer/ProtocolWriter") (Fb : Fld Z h0 wr "com/example/vigilant_consumer/vigilantconsumer/ProtocolWriter" "bytes" "[B" .null) (Fl : Fld Z h0 wr "com/example/vigilant_consumer/vigilantconsumer/ProtocolWriter" "length" "I" (.int (0 : Int32))) (gw : n0 ≤ wr) :
    MetFree l (⟨"com/example/vigilant_consumer/vigilantconsumer/ProtocolWriter", "<init>", "()V"⟩ : MethodName) (head1 (Jvm.Cond.code (⟨"com/example/vigilant_consumer/vigilantconsumer/ProtocolWriter", "<init>", "()V"⟩ : MethodName) prog_49_method_1_code 1 none :: ws) ({ frames := 1, cells := 1, slots := 64, locals := 12 } : Room)) (fun as_ U => as_ = #[(.ref wr)] ∧ Z.Warmed39 U.vm ∧ U.heap = h0) (fun _ _ _ _ _ => True) (fun _ U o U' => ∃ v L, o = .returned v ∧ own_Q_own_init Z wr h0 n0 v U'.heap L ∧ FrameEnd U o U' L ({ frames := 1, cells := 1, slots := 64, locals := 12 } : Room).cells ({ frames := 1, cells := 1, slots := 64, locals := 12 } : Room).slots) := by
  refine MetFree.of_bodySF (plainFor_of_name own_pn0) hisR ?_
  intro p e s m args below meth c s₁ Bd hml0 hP hK
  obtain ⟨rfl, hZ, hh⟩ := hP
  have hx := Bd.exec
  have hby := Bd.bytes
  have hml : c.maxLocals = 1 := hml0
  have hown : s.vm.findClass "com/example/vigilant_consumer/vigilantconsumer/ProtocolWriter" = some m.cls := findClass_of_methodNamed Bd.named
  have hnm := (name_of_methodNamed Bd.named Bd.method).1
  have X0 : Stand p l e ({ frames := 1, cells := 1, slots := 64, locals := 12 } : Room) s m #[(.ref wr)] below meth c s₁ [] 0 0 := Stand.of_body Bd
  have e0 : s₁.heap = h0 := by rw [← hh, Bd.state]; rfl
  have N0 := Fr.nil n0
  have pre0 : ∀ t, Steps p.tables e below (s₁.setTop (mkF m 0 #[.val (.ref wr)] [])) t → Steps p.tables e below (s₁.setTop (entryFrame m #[(.ref wr)] 1)) t := fun t k => castTop (own_ef1 m wr) k
  have KP := Keep.refl h0 ([wr] : List Addr)
  obtain ⟨T1, X1, e1, st1⟩ := initO X0 hx hZ hown (hw _ (List.mem_of_getElem? (i := 7) rfl)) (hw _ (List.mem_of_getElem? (i := 8) rfl)) (hw _ (List.mem_of_getElem? (i := 9) rfl)) e0 (g := (mkF m 1 #[.val (.ref wr)] [(.ref wr)])) rfl (by rw [hml]; rfl) rfl (hb hby own_d1_1) (by decide) (W := 0) (by show 2 * 0 + _ ≤ _; exact Nat.le_of_eq rfl) (by decide)
  obtain ⟨T2, h2, k2, X2, e2, E2, A2, Q2, st2⟩ := newPE X1 hx hZ (hw _ (List.mem_of_getElem? (i := 0) rfl)) e1 (g := (mkF m 7 #[.val (.ref wr)] [(.int (64 : Int32)), (.ref wr)])) rfl (hb hby own_d1_7) rfl (by decide) (cap := 64) (by decide) (by decide) (by decide) (by decide) (ad := "[B") rfl
  obtain ⟨b2, g2⟩ : ∃ z, z = h0.size := ⟨_, rfl⟩
  rw [← g2] at A2 st2 Q2
  have g_b2 : n0 ≤ b2 := Nat.le_trans Z0 (Nat.le_of_eq g2.symm)
  have sz_b2 : h0.size ≤ b2 := Nat.le_trans KP.1 (Nat.le_of_eq g2.symm)
  have ne_wr_b2 : wr ≠ b2 := Nat.ne_of_lt (Nat.lt_of_lt_of_le Ew.lt (Nat.le_of_eq g2.symm))
  have Ew := Ew.ext E2
  have Fb := Fb.ext E2
  have Fl := Fl.ext E2
  have Z3 : n0 ≤ h2.size := Nat.le_trans Z0 E2.1
  have KP := KP.ext E2
  have V_b2 : Arv Z h2 b2 k2 .byte (64 : Int32) [(.int (0 : Int32)), (.int (0 : Int32)), (.int (0 : Int32)), (.int (0 : Int32)), (.int (0 : Int32)), (.int (0 : Int32)), (.int (0 : Int32)), (.int (0 : Int32)), (.int (0 : Int32)), (.int (0 : Int32)), (.int (0 : Int32)), (.int (0 : Int32)), (.int (0 : Int32)), (.int (0 : Int32)), (.int (0 : Int32)), (.int (0 : Int32)), (.int (0 : Int32)), (.int (0 : Int32)), (.int (0 : Int32)), (.int (0 : Int32)), (.int (0 : Int32)), (.int (0 : Int32)), (.int (0 : Int32)), (.int (0 : Int32)), (.int (0 : Int32)), (.int (0 : Int32)), (.int (0 : Int32)), (.int (0 : Int32)), (.int (0 : Int32)), (.int (0 : Int32)), (.int (0 : Int32)), (.int (0 : Int32)), (.int (0 : Int32)), (.int (0 : Int32)), (.int (0 : Int32)), (.int (0 : Int32)), (.int (0 : Int32)), (.int (0 : Int32)), (.int (0 : Int32)), (.int (0 : Int32)), (.int (0 : Int32)), (.int (0 : Int32)), (.int (0 : Int32)), (.int (0 : Int32)), (.int (0 : Int32)), (.int (0 : Int32)), (.int (0 : Int32)), (.int (0 : Int32)), (.int (0 : Int32)), (.int (0 : Int32)), (.int (0 : Int32)), (.int (0 : Int32)), (.int (0 : Int32)), (.int (0 : Int32)), (.int (0 : Int32)), (.int (0 : Int32)), (.int (0 : Int32)), (.int (0 : Int32)), (.int (0 : Int32)), (.int (0 : Int32)), (.int (0 : Int32)), (.int (0 : Int32)), (.int (0 : Int32)), (.int (0 : Int32))] (.int (0 : Int32)) := (Arv.new A2 (by decide)).pad (pad_rep [] (.int (0 : Int32)) 64)
  have E_b2 := Q2
  obtain ⟨T4, h4, X4, e4, W4, st4⟩ := putF X2 hx hZ hown (host := "") (Or.inl (hw _ (List.mem_of_getElem? (i := 10) rfl))) Via.refl e2 Fb Ew (Or.inl (hw _ (List.mem_of_getElem? (i := 11) rfl))) (hw _ (List.mem_of_getElem? (i := 2) rfl)) (ty := (.array .byte)) (by decide) rfl rfl (g := (mkF m 9 #[.val (.ref wr)] [(.ref b2), (.ref wr)])) rfl rfl (hb hby own_d1_9)
  have Ew := Ew.wr W4
  have Fl := Fl.other W4 (Or.inr (slot_ne (Or.inl (hw _ (List.mem_of_getElem? (i := 18) rfl))) (Or.inl (hw _ (List.mem_of_getElem? (i := 11) rfl))) (by decide) (t := .int) (t' := (.array .byte)) (by decide) (by decide)))
  have V_b2 := V_b2.other W4 (Ne.symm ne_wr_b2)
  have E_b2 := E_b2.wr W4
  have Z5 : n0 ≤ h4.size := Nat.le_trans Z3 (Keep.of_wr W4).1
  have KP := KP.wr W4 (Or.inl (List.mem_of_getElem? (i := 0) rfl))
  have Fb := Fb.same W4
  have N4 := Fr.snoc X4 N0 gw
  obtain ⟨fs, hr, hrun, hended, hW, hsame⟩ := X4.leave (v := none) (fun _ => rfl)
  refine ⟨_, _, pre0 _ ?_, hrun, hended, _, _, rfl, ?_, ⟨_, rfl⟩, hW, hsame.mono (by decide) (by decide)⟩
  · show Steps p.tables e below (s₁.setTop (mkF m 0 #[.val (.ref wr)] [])) _
    refine XS.aloadN X0.here hx rfl (hb hby own_d1_0) rfl rfl ?_
    show Steps p.tables e below (s₁.setTop (mkF m 1 #[.val (.ref wr)] [(.ref wr)])) _
    refine st1 _ ?_
    show Steps p.tables e below (T1.setTop (mkF m 4 #[.val (.ref wr)] [])) _
    refine XS.aloadN X1.here hx rfl (hb hby own_d1_4) rfl rfl ?_
    show Steps p.tables e below (T1.setTop (mkF m 5 #[.val (.ref wr)] [(.ref wr)])) _
    refine XS.bipush X1.here hx rfl (hb hby own_d1_5) ?_
    show Steps p.tables e below (T1.setTop (mkF m 7 #[.val (.ref wr)] [(.int (64 : Int32)), (.ref wr)])) _
    refine st2 _ ?_
    show Steps p.tables e below (T2.setTop (mkF m 9 #[.val (.ref wr)] [(.ref b2), (.ref wr)])) _
    refine st4 _ ?_
    show Steps p.tables e below (T4.setTop (mkF m 12 #[.val (.ref wr)] [])) _
    exact X4.returnOut hx Bd.returns (hb hby own_d1_12) hr
  · show own_Q_own_init Z wr h0 n0 _ T4.heap _
    rw [e4]
    exact ⟨b2, k2, rfl, N4, KP, Fb, Fl, Arv.pad V_b2 (fun i => (pad_rep [] (Value.int 0) 64 i).symm), E_b2, sz_b2⟩
theorem own_d11_0 : decode method_2_code 0 = .ok (.aload_n 0, 1) := by decide +kernel
theorem own_d11_1 : decode method_2_code 1 = .ok (.iload_n 1, 1) := by decide +kernel
theorem own_d11_2 : decode method_2_code 2 = .ok (.baload, 1) := by decide +kernel
theorem own_d11_3 : decode method_2_code 3 = .ok (.iload_n 2, 1) := by decide +kernel
theorem own_d11_4 : decode method_2_code 4 = .ok (.bipush 8, 2) := by decide +kernel
theorem own_d11_6 : decode method_2_code 6 = .ok (.iushr, 1) := by decide +kernel
theorem own_d11_7 : decode method_2_code 7 = .ok (.i2b, 1) := by decide +kernel
theorem own_d11_8 : decode method_2_code 8 = .ok (.if_icmp .ne 17, 3) := by decide +kernel
theorem own_d11_11 : decode method_2_code 11 = .ok (.aload_n 0, 1) := by decide +kernel
theorem own_d11_12 : decode method_2_code 12 = .ok (.iload_n 1, 1) := by decide +kernel
theorem own_d11_13 : decode method_2_code 13 = .ok (.iconst 1, 1) := by decide +kernel
theorem own_d11_14 : decode method_2_code 14 = .ok (.iadd, 1) := by decide +kernel
theorem own_d11_15 : decode method_2_code 15 = .ok (.baload, 1) := by decide +kernel
theorem own_d11_16 : decode method_2_code 16 = .ok (.iload_n 2, 1) := by decide +kernel
theorem own_d11_17 : decode method_2_code 17 = .ok (.i2b, 1) := by decide +kernel
theorem own_d11_18 : decode method_2_code 18 = .ok (.if_icmp .ne 7, 3) := by decide +kernel
theorem own_d11_21 : decode method_2_code 21 = .ok (.iconst 1, 1) := by decide +kernel
theorem own_d11_22 : decode method_2_code 22 = .ok (.goto 4, 3) := by decide +kernel
theorem own_d11_26 : decode method_2_code 26 = .ok (.ireturn, 1) := by decide +kernel
theorem own_pn2 : plainName "com/example/vigilant_consumer/vigilantconsumer/ProtocolWriterToByteArrayPinLaw" = true := by first | (simp [plainName, overriddenIn]; done) | decide +kernel
theorem own_ef11 (m : MethodId) (x0 : Addr) (x1 : Int32) (x2 : Int32) : entryFrame m #[(.ref x0), (.int x1), (.int x2)] 3 = mkF m 0 #[.val (.ref x0), .val (.int x1), .val (.int x2)] [] := by first | (simp [entryFrame, mkF, argsToLocals, Value.category]; done) | rfl
def own_Q_own_r16 (Z : State) (aa : Addr) (i1 : Int32) (v1 : Int32) (ka : ClassId) (za : Int32) (DD : List Int32) (PA : List Int32) (PB : List Int32) (h0 : Heap) (n0 : Nat) (v : Option Value) (h : Heap) (L : List Loc) : Prop := v = some (.int (1 : Int32)) ∧ Fr n0 L ∧ h = h0
set_option maxRecDepth 65536 in
set_option maxHeartbeats 40000000 in
theorem own_r16 (l : Launch) (Z : State) (a0 : Array Value) (hw : ∀ d ∈ tables_1, d.before a0 Z = true) (ws : List Jvm.Cond) (aa : Addr) (i1 : Int32) (v1 : Int32) (ka : ClassId) (za : Int32) (DD : List Int32) (PA : List Int32) (PB : List Int32) (h0 : Heap) (n0 : Nat) (Z0 : n0 ≤ h0.size) (Va : Arv Z h0 aa ka .byte za (List.map Value.int DD) (.int (0 : Int32))) (hD : DD = PA ++ (own_l16 v1 ++ PB)) (ha : i1.toInt = (PA.length : Int)) (hza : za.toInt = (DD.length : Int)) (hsm : (DD.length : Int) ≤ 200) :
    MetFree l (⟨"com/example/vigilant_consumer/vigilantconsumer/ProtocolWriterToByteArrayPinLaw", "int16At", "([BII)Z"⟩ : MethodName) (head1 (Jvm.Cond.code (⟨"com/example/vigilant_consumer/vigilantconsumer/ProtocolWriterToByteArrayPinLaw", "int16At", "([BII)Z"⟩ : MethodName) method_2_code 3 (some .boolean) :: ws) ({ frames := 0, cells := 0, slots := 0, locals := 0 } : Room)) (fun as_ U => as_ = #[(.ref aa), (.int i1), (.int v1)] ∧ Z.Warmed39 U.vm ∧ U.heap = h0) (fun _ _ _ _ _ => True) (fun _ U o U' => ∃ v L, o = .returned v ∧ own_Q_own_r16 Z aa i1 v1 ka za DD PA PB h0 n0 v U'.heap L ∧ FrameEnd U o U' L ({ frames := 0, cells := 0, slots := 0, locals := 0 } : Room).cells ({ frames := 0, cells := 0, slots := 0, locals := 0 } : Room).slots) := by
  refine MetFree.of_bodySF (plainFor_of_name own_pn2) hisR ?_
  intro p e s m args below meth c s₁ Bd hml0 hP hK
  obtain ⟨rfl, hZ, hh⟩ := hP
  have hx := Bd.exec
  have hby := Bd.bytes
  have hml : c.maxLocals = 3 := hml0
  have hown : s.vm.findClass "com/example/vigilant_consumer/vigilantconsumer/ProtocolWriterToByteArrayPinLaw" = some m.cls := findClass_of_methodNamed Bd.named
  have hnm := (name_of_methodNamed Bd.named Bd.method).1
  have X0 : Stand p l e ({ frames := 0, cells := 0, slots := 0, locals := 0 } : Room) s m #[(.ref aa), (.int i1), (.int v1)] below meth c s₁ [] 0 0 := Stand.of_body Bd
  have e0 : s₁.heap = h0 := by rw [← hh, Bd.state]; rfl
  have N0 := Fr.nil n0
  have pre0 : ∀ t, Steps p.tables e below (s₁.setTop (mkF m 0 #[.val (.ref aa), .val (.int i1), .val (.int v1)] [])) t → Steps p.tables e below (s₁.setTop (entryFrame m #[(.ref aa), (.int i1), (.int v1)] 3)) t := fun t k => castTop (own_ef11 m aa i1 v1) k
  obtain ⟨cl1, Ar1, q1, S1, M1, H1, G1⟩ := id Va
  have hr1 := own_rd (j := i1) 0 hD ha hza (by simp) (show 0 < 2 from by decide) (v := (((v1.toUInt32 >>> ((8 : Int32) &&& 31).toUInt32).toInt32).toInt8.toInt32)) rfl
  have hin1 : ¬ (i1 < 0 ∨ cl1.slots.size ≤ (i1).toNatClampNeg) := inb_of S1 hr1.1
  obtain ⟨cl2, Ar2, q2, S2, M2, H2, G2⟩ := id Va
  have hr2 := own_rd (j := (i1 + (1 : Int32))) 1 hD ha hza (by rw [own_add ha (show (1 : Int32).toInt = 1 from rfl) (by omega) (by omega) (by have q_ := congrArg List.length hD; simp only [List.length_append] at q_; omega), ha]; rfl) (show 1 < 2 from by decide) (v := (v1.toInt8.toInt32)) rfl
  have hin2 : ¬ ((i1 + (1 : Int32)) < 0 ∨ cl2.slots.size ≤ ((i1 + (1 : Int32))).toNatClampNeg) := inb_of S2 hr2.1
  obtain ⟨fs, hr, hrun, hended, hW, hsame⟩ := X0.leave (v := some (.int (1 : Int32))) (fun h => by rw [Bd.returns] at h; cases h)
  refine ⟨_, _, pre0 _ ?_, hrun, hended, _, _, rfl, ?_, ⟨_, rfl⟩, hW, hsame.mono (by decide) (by decide)⟩
  · show Steps p.tables e below (s₁.setTop (mkF m 0 #[.val (.ref aa), .val (.int i1), .val (.int v1)] [])) _
    refine XS.aloadN X0.here hx rfl (hb hby own_d11_0) rfl rfl ?_
    show Steps p.tables e below (s₁.setTop (mkF m 1 #[.val (.ref aa), .val (.int i1), .val (.int v1)] [(.ref aa)])) _
    refine XS.iloadN X0.here hx rfl (hb hby own_d11_1) rfl ?_
    show Steps p.tables e below (s₁.setTop (mkF m 2 #[.val (.ref aa), .val (.int i1), .val (.int v1)] [(.int i1), (.ref aa)])) _
    refine X0.baloadBytes hx (j := i1) (v := (.int (((v1.toUInt32 >>> ((8 : Int32) &&& 31).toUInt32).toInt32).toInt8.toInt32))) (by rw [e0]; exact Ar1.1) (State.isArrayOf_alike hZ.alike Ar1.2.1) Ar1.2.2 hin1 (H1.at hin1 hr1.2) (g := (mkF m 2 #[.val (.ref aa), .val (.int i1), .val (.int v1)] [(.int i1), (.ref aa)])) rfl rfl (hb hby own_d11_2) _ ?_
    show Steps p.tables e below (s₁.setTop (mkF m 3 #[.val (.ref aa), .val (.int i1), .val (.int v1)] [(.int (((v1.toUInt32 >>> ((8 : Int32) &&& 31).toUInt32).toInt32).toInt8.toInt32))])) _
    refine XS.iloadN X0.here hx rfl (hb hby own_d11_3) rfl ?_
    show Steps p.tables e below (s₁.setTop (mkF m 4 #[.val (.ref aa), .val (.int i1), .val (.int v1)] [(.int v1), (.int (((v1.toUInt32 >>> ((8 : Int32) &&& 31).toUInt32).toInt32).toInt8.toInt32))])) _
    refine XS.bipush X0.here hx rfl (hb hby own_d11_4) ?_
    show Steps p.tables e below (s₁.setTop (mkF m 6 #[.val (.ref aa), .val (.int i1), .val (.int v1)] [(.int (8 : Int32)), (.int v1), (.int (((v1.toUInt32 >>> ((8 : Int32) &&& 31).toUInt32).toInt32).toInt8.toInt32))])) _
    refine XS.iushr X0.here hx rfl (hb hby own_d11_6) rfl ?_
    show Steps p.tables e below (s₁.setTop (mkF m 7 #[.val (.ref aa), .val (.int i1), .val (.int v1)] [(.int ((v1.toUInt32 >>> ((8 : Int32) &&& 31).toUInt32).toInt32)), (.int (((v1.toUInt32 >>> ((8 : Int32) &&& 31).toUInt32).toInt32).toInt8.toInt32))])) _
    refine XS.i2b X0.here hx rfl (hb hby own_d11_7) rfl ?_
    show Steps p.tables e below (s₁.setTop (mkF m 8 #[.val (.ref aa), .val (.int i1), .val (.int v1)] [(.int (((v1.toUInt32 >>> ((8 : Int32) &&& 31).toUInt32).toInt32).toInt8.toInt32)), (.int (((v1.toUInt32 >>> ((8 : Int32) &&& 31).toUInt32).toInt32).toInt8.toInt32))])) _
    refine XS.icmpNo X0.here hx rfl (hb hby own_d11_8) rfl (teq (rfl : (((v1.toUInt32 >>> ((8 : Int32) &&& 31).toUInt32).toInt32).toInt8.toInt32) = (((v1.toUInt32 >>> ((8 : Int32) &&& 31).toUInt32).toInt32).toInt8.toInt32))).2 ?_
    show Steps p.tables e below (s₁.setTop (mkF m 11 #[.val (.ref aa), .val (.int i1), .val (.int v1)] [])) _
    refine XS.aloadN X0.here hx rfl (hb hby own_d11_11) rfl rfl ?_
    show Steps p.tables e below (s₁.setTop (mkF m 12 #[.val (.ref aa), .val (.int i1), .val (.int v1)] [(.ref aa)])) _
    refine XS.iloadN X0.here hx rfl (hb hby own_d11_12) rfl ?_
    show Steps p.tables e below (s₁.setTop (mkF m 13 #[.val (.ref aa), .val (.int i1), .val (.int v1)] [(.int i1), (.ref aa)])) _
    refine XS.iconst X0.here hx rfl (hb hby own_d11_13) ?_
    show Steps p.tables e below (s₁.setTop (mkF m 14 #[.val (.ref aa), .val (.int i1), .val (.int v1)] [(.int (1 : Int32)), (.int i1), (.ref aa)])) _
    refine XS.iadd X0.here hx rfl (hb hby own_d11_14) rfl ?_
    show Steps p.tables e below (s₁.setTop (mkF m 15 #[.val (.ref aa), .val (.int i1), .val (.int v1)] [(.int (i1 + (1 : Int32))), (.ref aa)])) _
    refine X0.baloadBytes hx (j := (i1 + (1 : Int32))) (v := (.int (v1.toInt8.toInt32))) (by rw [e0]; exact Ar2.1) (State.isArrayOf_alike hZ.alike Ar2.2.1) Ar2.2.2 hin2 (H2.at hin2 hr2.2) (g := (mkF m 15 #[.val (.ref aa), .val (.int i1), .val (.int v1)] [(.int (i1 + (1 : Int32))), (.ref aa)])) rfl rfl (hb hby own_d11_15) _ ?_
    show Steps p.tables e below (s₁.setTop (mkF m 16 #[.val (.ref aa), .val (.int i1), .val (.int v1)] [(.int (v1.toInt8.toInt32))])) _
    refine XS.iloadN X0.here hx rfl (hb hby own_d11_16) rfl ?_
    show Steps p.tables e below (s₁.setTop (mkF m 17 #[.val (.ref aa), .val (.int i1), .val (.int v1)] [(.int v1), (.int (v1.toInt8.toInt32))])) _
    refine XS.i2b X0.here hx rfl (hb hby own_d11_17) rfl ?_
    show Steps p.tables e below (s₁.setTop (mkF m 18 #[.val (.ref aa), .val (.int i1), .val (.int v1)] [(.int (v1.toInt8.toInt32)), (.int (v1.toInt8.toInt32))])) _
    refine XS.icmpNo X0.here hx rfl (hb hby own_d11_18) rfl (teq (rfl : (v1.toInt8.toInt32) = (v1.toInt8.toInt32))).2 ?_
    show Steps p.tables e below (s₁.setTop (mkF m 21 #[.val (.ref aa), .val (.int i1), .val (.int v1)] [])) _
    refine XS.iconst X0.here hx rfl (hb hby own_d11_21) ?_
    show Steps p.tables e below (s₁.setTop (mkF m 22 #[.val (.ref aa), .val (.int i1), .val (.int v1)] [(.int (1 : Int32))])) _
    refine XS.goto X0.here hx rfl (pc0 := 22) (pc' := 26) rfl (hb hby own_d11_22) (by decide) (by decide) ?_
    show Steps p.tables e below (s₁.setTop (mkF m 26 #[.val (.ref aa), .val (.int i1), .val (.int v1)] [(.int (1 : Int32))])) _
    exact retN X0 hx (t := .boolean) Bd.returns (by simp) (hb hby own_d11_26) hr
  · show own_Q_own_r16 Z aa i1 v1 ka za DD PA PB h0 n0 _ s₁.heap _
    rw [e0]
    exact ⟨rfl, N0, rfl⟩
theorem own_d12_0 : decode method_3_code 0 = .ok (.aload_n 0, 1) := by decide +kernel
theorem own_d12_1 : decode method_3_code 1 = .ok (.iload_n 1, 1) := by decide +kernel
theorem own_d12_2 : decode method_3_code 2 = .ok (.baload, 1) := by decide +kernel
theorem own_d12_3 : decode method_3_code 3 = .ok (.iload_n 2, 1) := by decide +kernel
theorem own_d12_4 : decode method_3_code 4 = .ok (.bipush 24, 2) := by decide +kernel
theorem own_d12_6 : decode method_3_code 6 = .ok (.iushr, 1) := by decide +kernel
theorem own_d12_7 : decode method_3_code 7 = .ok (.i2b, 1) := by decide +kernel
theorem own_d12_8 : decode method_3_code 8 = .ok (.if_icmp .ne 43, 3) := by decide +kernel
theorem own_d12_11 : decode method_3_code 11 = .ok (.aload_n 0, 1) := by decide +kernel
theorem own_d12_12 : decode method_3_code 12 = .ok (.iload_n 1, 1) := by decide +kernel
theorem own_d12_13 : decode method_3_code 13 = .ok (.iconst 1, 1) := by decide +kernel
theorem own_d12_14 : decode method_3_code 14 = .ok (.iadd, 1) := by decide +kernel
theorem own_d12_15 : decode method_3_code 15 = .ok (.baload, 1) := by decide +kernel
theorem own_d12_16 : decode method_3_code 16 = .ok (.iload_n 2, 1) := by decide +kernel
theorem own_d12_17 : decode method_3_code 17 = .ok (.bipush 16, 2) := by decide +kernel
theorem own_d12_19 : decode method_3_code 19 = .ok (.iushr, 1) := by decide +kernel
theorem own_d12_20 : decode method_3_code 20 = .ok (.i2b, 1) := by decide +kernel
theorem own_d12_21 : decode method_3_code 21 = .ok (.if_icmp .ne 30, 3) := by decide +kernel
theorem own_d12_24 : decode method_3_code 24 = .ok (.aload_n 0, 1) := by decide +kernel
theorem own_d12_25 : decode method_3_code 25 = .ok (.iload_n 1, 1) := by decide +kernel
theorem own_d12_26 : decode method_3_code 26 = .ok (.iconst 2, 1) := by decide +kernel
theorem own_d12_27 : decode method_3_code 27 = .ok (.iadd, 1) := by decide +kernel
theorem own_d12_28 : decode method_3_code 28 = .ok (.baload, 1) := by decide +kernel
theorem own_d12_29 : decode method_3_code 29 = .ok (.iload_n 2, 1) := by decide +kernel
theorem own_d12_30 : decode method_3_code 30 = .ok (.bipush 8, 2) := by decide +kernel
theorem own_d12_32 : decode method_3_code 32 = .ok (.iushr, 1) := by decide +kernel
theorem own_d12_33 : decode method_3_code 33 = .ok (.i2b, 1) := by decide +kernel
theorem own_d12_34 : decode method_3_code 34 = .ok (.if_icmp .ne 17, 3) := by decide +kernel
theorem own_d12_37 : decode method_3_code 37 = .ok (.aload_n 0, 1) := by decide +kernel
theorem own_d12_38 : decode method_3_code 38 = .ok (.iload_n 1, 1) := by decide +kernel
theorem own_d12_39 : decode method_3_code 39 = .ok (.iconst 3, 1) := by decide +kernel
theorem own_d12_40 : decode method_3_code 40 = .ok (.iadd, 1) := by decide +kernel
theorem own_d12_41 : decode method_3_code 41 = .ok (.baload, 1) := by decide +kernel
theorem own_d12_42 : decode method_3_code 42 = .ok (.iload_n 2, 1) := by decide +kernel
theorem own_d12_43 : decode method_3_code 43 = .ok (.i2b, 1) := by decide +kernel
theorem own_d12_44 : decode method_3_code 44 = .ok (.if_icmp .ne 7, 3) := by decide +kernel
theorem own_d12_47 : decode method_3_code 47 = .ok (.iconst 1, 1) := by decide +kernel
theorem own_d12_48 : decode method_3_code 48 = .ok (.goto 4, 3) := by decide +kernel
theorem own_d12_52 : decode method_3_code 52 = .ok (.ireturn, 1) := by decide +kernel
theorem own_ef12 (m : MethodId) (x0 : Addr) (x1 : Int32) (x2 : Int32) : entryFrame m #[(.ref x0), (.int x1), (.int x2)] 3 = mkF m 0 #[.val (.ref x0), .val (.int x1), .val (.int x2)] [] := by first | (simp [entryFrame, mkF, argsToLocals, Value.category]; done) | rfl
def own_Q_own_r32 (Z : State) (aa : Addr) (i1 : Int32) (v1 : Int32) (ka : ClassId) (za : Int32) (DD : List Int32) (PA : List Int32) (PB : List Int32) (h0 : Heap) (n0 : Nat) (v : Option Value) (h : Heap) (L : List Loc) : Prop := v = some (.int (1 : Int32)) ∧ Fr n0 L ∧ h = h0
set_option maxRecDepth 65536 in
set_option maxHeartbeats 40000000 in
theorem own_r32 (l : Launch) (Z : State) (a0 : Array Value) (hw : ∀ d ∈ tables_1, d.before a0 Z = true) (ws : List Jvm.Cond) (aa : Addr) (i1 : Int32) (v1 : Int32) (ka : ClassId) (za : Int32) (DD : List Int32) (PA : List Int32) (PB : List Int32) (h0 : Heap) (n0 : Nat) (Z0 : n0 ≤ h0.size) (Va : Arv Z h0 aa ka .byte za (List.map Value.int DD) (.int (0 : Int32))) (hD : DD = PA ++ (own_l32 v1 ++ PB)) (ha : i1.toInt = (PA.length : Int)) (hza : za.toInt = (DD.length : Int)) (hsm : (DD.length : Int) ≤ 200) :
    MetFree l (⟨"com/example/vigilant_consumer/vigilantconsumer/ProtocolWriterToByteArrayPinLaw", "int32At", "([BII)Z"⟩ : MethodName) (head1 (Jvm.Cond.code (⟨"com/example/vigilant_consumer/vigilantconsumer/ProtocolWriterToByteArrayPinLaw", "int32At", "([BII)Z"⟩ : MethodName) method_3_code 3 (some .boolean) :: ws) ({ frames := 0, cells := 0, slots := 0, locals := 0 } : Room)) (fun as_ U => as_ = #[(.ref aa), (.int i1), (.int v1)] ∧ Z.Warmed39 U.vm ∧ U.heap = h0) (fun _ _ _ _ _ => True) (fun _ U o U' => ∃ v L, o = .returned v ∧ own_Q_own_r32 Z aa i1 v1 ka za DD PA PB h0 n0 v U'.heap L ∧ FrameEnd U o U' L ({ frames := 0, cells := 0, slots := 0, locals := 0 } : Room).cells ({ frames := 0, cells := 0, slots := 0, locals := 0 } : Room).slots) := by
  refine MetFree.of_bodySF (plainFor_of_name own_pn2) hisR ?_
  intro p e s m args below meth c s₁ Bd hml0 hP hK
  obtain ⟨rfl, hZ, hh⟩ := hP
  have hx := Bd.exec
  have hby := Bd.bytes
  have hml : c.maxLocals = 3 := hml0
  have hown : s.vm.findClass "com/example/vigilant_consumer/vigilantconsumer/ProtocolWriterToByteArrayPinLaw" = some m.cls := findClass_of_methodNamed Bd.named
  have hnm := (name_of_methodNamed Bd.named Bd.method).1
  have X0 : Stand p l e ({ frames := 0, cells := 0, slots := 0, locals := 0 } : Room) s m #[(.ref aa), (.int i1), (.int v1)] below meth c s₁ [] 0 0 := Stand.of_body Bd
  have e0 : s₁.heap = h0 := by rw [← hh, Bd.state]; rfl
  have N0 := Fr.nil n0
  have pre0 : ∀ t, Steps p.tables e below (s₁.setTop (mkF m 0 #[.val (.ref aa), .val (.int i1), .val (.int v1)] [])) t → Steps p.tables e below (s₁.setTop (entryFrame m #[(.ref aa), (.int i1), (.int v1)] 3)) t := fun t k => castTop (own_ef12 m aa i1 v1) k
  obtain ⟨cl1, Ar1, q1, S1, M1, H1, G1⟩ := id Va
  have hr1 := own_rd (j := i1) 0 hD ha hza (by simp) (show 0 < 4 from by decide) (v := (((v1.toUInt32 >>> ((24 : Int32) &&& 31).toUInt32).toInt32).toInt8.toInt32)) rfl
  have hin1 : ¬ (i1 < 0 ∨ cl1.slots.size ≤ (i1).toNatClampNeg) := inb_of S1 hr1.1
  obtain ⟨cl2, Ar2, q2, S2, M2, H2, G2⟩ := id Va
  have hr2 := own_rd (j := (i1 + (1 : Int32))) 1 hD ha hza (by rw [own_add ha (show (1 : Int32).toInt = 1 from rfl) (by omega) (by omega) (by have q_ := congrArg List.length hD; simp only [List.length_append] at q_; omega), ha]; rfl) (show 1 < 4 from by decide) (v := (((v1.toUInt32 >>> ((16 : Int32) &&& 31).toUInt32).toInt32).toInt8.toInt32)) rfl
  have hin2 : ¬ ((i1 + (1 : Int32)) < 0 ∨ cl2.slots.size ≤ ((i1 + (1 : Int32))).toNatClampNeg) := inb_of S2 hr2.1
  obtain ⟨cl3, Ar3, q3, S3, M3, H3, G3⟩ := id Va
  have hr3 := own_rd (j := (i1 + (2 : Int32))) 2 hD ha hza (by rw [own_add ha (show (2 : Int32).toInt = 2 from rfl) (by omega) (by omega) (by have q_ := congrArg List.length hD; simp only [List.length_append] at q_; omega), ha]; rfl) (show 2 < 4 from by decide) (v := (((v1.toUInt32 >>> ((8 : Int32) &&& 31).toUInt32).toInt32).toInt8.toInt32)) rfl
  have hin3 : ¬ ((i1 + (2 : Int32)) < 0 ∨ cl3.slots.size ≤ ((i1 + (2 : Int32))).toNatClampNeg) := inb_of S3 hr3.1
  obtain ⟨cl4, Ar4, q4, S4, M4, H4, G4⟩ := id Va
  have hr4 := own_rd (j := (i1 + (3 : Int32))) 3 hD ha hza (by rw [own_add ha (show (3 : Int32).toInt = 3 from rfl) (by omega) (by omega) (by have q_ := congrArg List.length hD; simp only [List.length_append] at q_; omega), ha]; rfl) (show 3 < 4 from by decide) (v := (v1.toInt8.toInt32)) rfl
  have hin4 : ¬ ((i1 + (3 : Int32)) < 0 ∨ cl4.slots.size ≤ ((i1 + (3 : Int32))).toNatClampNeg) := inb_of S4 hr4.1
  obtain ⟨fs, hr, hrun, hended, hW, hsame⟩ := X0.leave (v := some (.int (1 : Int32))) (fun h => by rw [Bd.returns] at h; cases h)
  refine ⟨_, _, pre0 _ ?_, hrun, hended, _, _, rfl, ?_, ⟨_, rfl⟩, hW, hsame.mono (by decide) (by decide)⟩
  · show Steps p.tables e below (s₁.setTop (mkF m 0 #[.val (.ref aa), .val (.int i1), .val (.int v1)] [])) _
    refine XS.aloadN X0.here hx rfl (hb hby own_d12_0) rfl rfl ?_
    show Steps p.tables e below (s₁.setTop (mkF m 1 #[.val (.ref aa), .val (.int i1), .val (.int v1)] [(.ref aa)])) _
    refine XS.iloadN X0.here hx rfl (hb hby own_d12_1) rfl ?_
    show Steps p.tables e below (s₁.setTop (mkF m 2 #[.val (.ref aa), .val (.int i1), .val (.int v1)] [(.int i1), (.ref aa)])) _
    refine X0.baloadBytes hx (j := i1) (v := (.int (((v1.toUInt32 >>> ((24 : Int32) &&& 31).toUInt32).toInt32).toInt8.toInt32))) (by rw [e0]; exact Ar1.1) (State.isArrayOf_alike hZ.alike Ar1.2.1) Ar1.2.2 hin1 (H1.at hin1 hr1.2) (g := (mkF m 2 #[.val (.ref aa), .val (.int i1), .val (.int v1)] [(.int i1), (.ref aa)])) rfl rfl (hb hby own_d12_2) _ ?_
    show Steps p.tables e below (s₁.setTop (mkF m 3 #[.val (.ref aa), .val (.int i1), .val (.int v1)] [(.int (((v1.toUInt32 >>> ((24 : Int32) &&& 31).toUInt32).toInt32).toInt8.toInt32))])) _
    refine XS.iloadN X0.here hx rfl (hb hby own_d12_3) rfl ?_
    show Steps p.tables e below (s₁.setTop (mkF m 4 #[.val (.ref aa), .val (.int i1), .val (.int v1)] [(.int v1), (.int (((v1.toUInt32 >>> ((24 : Int32) &&& 31).toUInt32).toInt32).toInt8.toInt32))])) _
    refine XS.bipush X0.here hx rfl (hb hby own_d12_4) ?_
    show Steps p.tables e below (s₁.setTop (mkF m 6 #[.val (.ref aa), .val (.int i1), .val (.int v1)] [(.int (24 : Int32)), (.int v1), (.int (((v1.toUInt32 >>> ((24 : Int32) &&& 31).toUInt32).toInt32).toInt8.toInt32))])) _
    refine XS.iushr X0.here hx rfl (hb hby own_d12_6) rfl ?_
    show Steps p.tables e below (s₁.setTop (mkF m 7 #[.val (.ref aa), .val (.int i1), .val (.int v1)] [(.int ((v1.toUInt32 >>> ((24 : Int32) &&& 31).toUInt32).toInt32)), (.int (((v1.toUInt32 >>> ((24 : Int32) &&& 31).toUInt32).toInt32).toInt8.toInt32))])) _
    refine XS.i2b X0.here hx rfl (hb hby own_d12_7) rfl ?_
    show Steps p.tables e below (s₁.setTop (mkF m 8 #[.val (.ref aa), .val (.int i1), .val (.int v1)] [(.int (((v1.toUInt32 >>> ((24 : Int32) &&& 31).toUInt32).toInt32).toInt8.toInt32)), (.int (((v1.toUInt32 >>> ((24 : Int32) &&& 31).toUInt32).toInt32).toInt8.toInt32))])) _
    refine XS.icmpNo X0.here hx rfl (hb hby own_d12_8) rfl (teq (rfl : (((v1.toUInt32 >>> ((24 : Int32) &&& 31).toUInt32).toInt32).toInt8.toInt32) = (((v1.toUInt32 >>> ((24 : Int32) &&& 31).toUInt32).toInt32).toInt8.toInt32))).2 ?_
    show Steps p.tables e below (s₁.setTop (mkF m 11 #[.val (.ref aa), .val (.int i1), .val (.int v1)] [])) _
    refine XS.aloadN X0.here hx rfl (hb hby own_d12_11) rfl rfl ?_
    show Steps p.tables e below (s₁.setTop (mkF m 12 #[.val (.ref aa), .val (.int i1), .val (.int v1)] [(.ref aa)])) _
    refine XS.iloadN X0.here hx rfl (hb hby own_d12_12) rfl ?_
    show Steps p.tables e below (s₁.setTop (mkF m 13 #[.val (.ref aa), .val (.int i1), .val (.int v1)] [(.int i1), (.ref aa)])) _
    refine XS.iconst X0.here hx rfl (hb hby own_d12_13) ?_
    show Steps p.tables e below (s₁.setTop (mkF m 14 #[.val (.ref aa), .val (.int i1), .val (.int v1)] [(.int (1 : Int32)), (.int i1), (.ref aa)])) _
    refine XS.iadd X0.here hx rfl (hb hby own_d12_14) rfl ?_
    show Steps p.tables e below (s₁.setTop (mkF m 15 #[.val (.ref aa), .val (.int i1), .val (.int v1)] [(.int (i1 + (1 : Int32))), (.ref aa)])) _
    refine X0.baloadBytes hx (j := (i1 + (1 : Int32))) (v := (.int (((v1.toUInt32 >>> ((16 : Int32) &&& 31).toUInt32).toInt32).toInt8.toInt32))) (by rw [e0]; exact Ar2.1) (State.isArrayOf_alike hZ.alike Ar2.2.1) Ar2.2.2 hin2 (H2.at hin2 hr2.2) (g := (mkF m 15 #[.val (.ref aa), .val (.int i1), .val (.int v1)] [(.int (i1 + (1 : Int32))), (.ref aa)])) rfl rfl (hb hby own_d12_15) _ ?_
    show Steps p.tables e below (s₁.setTop (mkF m 16 #[.val (.ref aa), .val (.int i1), .val (.int v1)] [(.int (((v1.toUInt32 >>> ((16 : Int32) &&& 31).toUInt32).toInt32).toInt8.toInt32))])) _
    refine XS.iloadN X0.here hx rfl (hb hby own_d12_16) rfl ?_
    show Steps p.tables e below (s₁.setTop (mkF m 17 #[.val (.ref aa), .val (.int i1), .val (.int v1)] [(.int v1), (.int (((v1.toUInt32 >>> ((16 : Int32) &&& 31).toUInt32).toInt32).toInt8.toInt32))])) _
    refine XS.bipush X0.here hx rfl (hb hby own_d12_17) ?_
    show Steps p.tables e below (s₁.setTop (mkF m 19 #[.val (.ref aa), .val (.int i1), .val (.int v1)] [(.int (16 : Int32)), (.int v1), (.int (((v1.toUInt32 >>> ((16 : Int32) &&& 31).toUInt32).toInt32).toInt8.toInt32))])) _
    refine XS.iushr X0.here hx rfl (hb hby own_d12_19) rfl ?_
    show Steps p.tables e below (s₁.setTop (mkF m 20 #[.val (.ref aa), .val (.int i1), .val (.int v1)] [(.int ((v1.toUInt32 >>> ((16 : Int32) &&& 31).toUInt32).toInt32)), (.int (((v1.toUInt32 >>> ((16 : Int32) &&& 31).toUInt32).toInt32).toInt8.toInt32))])) _
    refine XS.i2b X0.here hx rfl (hb hby own_d12_20) rfl ?_
    show Steps p.tables e below (s₁.setTop (mkF m 21 #[.val (.ref aa), .val (.int i1), .val (.int v1)] [(.int (((v1.toUInt32 >>> ((16 : Int32) &&& 31).toUInt32).toInt32).toInt8.toInt32)), (.int (((v1.toUInt32 >>> ((16 : Int32) &&& 31).toUInt32).toInt32).toInt8.toInt32))])) _
    refine XS.icmpNo X0.here hx rfl (hb hby own_d12_21) rfl (teq (rfl : (((v1.toUInt32 >>> ((16 : Int32) &&& 31).toUInt32).toInt32).toInt8.toInt32) = (((v1.toUInt32 >>> ((16 : Int32) &&& 31).toUInt32).toInt32).toInt8.toInt32))).2 ?_
    show Steps p.tables e below (s₁.setTop (mkF m 24 #[.val (.ref aa), .val (.int i1), .val (.int v1)] [])) _
    refine XS.aloadN X0.here hx rfl (hb hby own_d12_24) rfl rfl ?_
    show Steps p.tables e below (s₁.setTop (mkF m 25 #[.val (.ref aa), .val (.int i1), .val (.int v1)] [(.ref aa)])) _
    refine XS.iloadN X0.here hx rfl (hb hby own_d12_25) rfl ?_
    show Steps p.tables e below (s₁.setTop (mkF m 26 #[.val (.ref aa), .val (.int i1), .val (.int v1)] [(.int i1), (.ref aa)])) _
    refine XS.iconst X0.here hx rfl (hb hby own_d12_26) ?_
    show Steps p.tables e below (s₁.setTop (mkF m 27 #[.val (.ref aa), .val (.int i1), .val (.int v1)] [(.int (2 : Int32)), (.int i1), (.ref aa)])) _
    refine XS.iadd X0.here hx rfl (hb hby own_d12_27) rfl ?_
    show Steps p.tables e below (s₁.setTop (mkF m 28 #[.val (.ref aa), .val (.int i1), .val (.int v1)] [(.int (i1 + (2 : Int32))), (.ref aa)])) _
    refine X0.baloadBytes hx (j := (i1 + (2 : Int32))) (v := (.int (((v1.toUInt32 >>> ((8 : Int32) &&& 31).toUInt32).toInt32).toInt8.toInt32))) (by rw [e0]; exact Ar3.1) (State.isArrayOf_alike hZ.alike Ar3.2.1) Ar3.2.2 hin3 (H3.at hin3 hr3.2) (g := (mkF m 28 #[.val (.ref aa), .val (.int i1), .val (.int v1)] [(.int (i1 + (2 : Int32))), (.ref aa)])) rfl rfl (hb hby own_d12_28) _ ?_
    show Steps p.tables e below (s₁.setTop (mkF m 29 #[.val (.ref aa), .val (.int i1), .val (.int v1)] [(.int (((v1.toUInt32 >>> ((8 : Int32) &&& 31).toUInt32).toInt32).toInt8.toInt32))])) _
    refine XS.iloadN X0.here hx rfl (hb hby own_d12_29) rfl ?_
    show Steps p.tables e below (s₁.setTop (mkF m 30 #[.val (.ref aa), .val (.int i1), .val (.int v1)] [(.int v1), (.int (((v1.toUInt32 >>> ((8 : Int32) &&& 31).toUInt32).toInt32).toInt8.toInt32))])) _
    refine XS.bipush X0.here hx rfl (hb hby own_d12_30) ?_
    show Steps p.tables e below (s₁.setTop (mkF m 32 #[.val (.ref aa), .val (.int i1), .val (.int v1)] [(.int (8 : Int32)), (.int v1), (.int (((v1.toUInt32 >>> ((8 : Int32) &&& 31).toUInt32).toInt32).toInt8.toInt32))])) _
    refine XS.iushr X0.here hx rfl (hb hby own_d12_32) rfl ?_
    show Steps p.tables e below (s₁.setTop (mkF m 33 #[.val (.ref aa), .val (.int i1), .val (.int v1)] [(.int ((v1.toUInt32 >>> ((8 : Int32) &&& 31).toUInt32).toInt32)), (.int (((v1.toUInt32 >>> ((8 : Int32) &&& 31).toUInt32).toInt32).toInt8.toInt32))])) _
    refine XS.i2b X0.here hx rfl (hb hby own_d12_33) rfl ?_
    show Steps p.tables e below (s₁.setTop (mkF m 34 #[.val (.ref aa), .val (.int i1), .val (.int v1)] [(.int (((v1.toUInt32 >>> ((8 : Int32) &&& 31).toUInt32).toInt32).toInt8.toInt32)), (.int (((v1.toUInt32 >>> ((8 : Int32) &&& 31).toUInt32).toInt32).toInt8.toInt32))])) _
    refine XS.icmpNo X0.here hx rfl (hb hby own_d12_34) rfl (teq (rfl : (((v1.toUInt32 >>> ((8 : Int32) &&& 31).toUInt32).toInt32).toInt8.toInt32) = (((v1.toUInt32 >>> ((8 : Int32) &&& 31).toUInt32).toInt32).toInt8.toInt32))).2 ?_
    show Steps p.tables e below (s₁.setTop (mkF m 37 #[.val (.ref aa), .val (.int i1), .val (.int v1)] [])) _
    refine XS.aloadN X0.here hx rfl (hb hby own_d12_37) rfl rfl ?_
    show Steps p.tables e below (s₁.setTop (mkF m 38 #[.val (.ref aa), .val (.int i1), .val (.int v1)] [(.ref aa)])) _
    refine XS.iloadN X0.here hx rfl (hb hby own_d12_38) rfl ?_
    show Steps p.tables e below (s₁.setTop (mkF m 39 #[.val (.ref aa), .val (.int i1), .val (.int v1)] [(.int i1), (.ref aa)])) _
    refine XS.iconst X0.here hx rfl (hb hby own_d12_39) ?_
    show Steps p.tables e below (s₁.setTop (mkF m 40 #[.val (.ref aa), .val (.int i1), .val (.int v1)] [(.int (3 : Int32)), (.int i1), (.ref aa)])) _
    refine XS.iadd X0.here hx rfl (hb hby own_d12_40) rfl ?_
    show Steps p.tables e below (s₁.setTop (mkF m 41 #[.val (.ref aa), .val (.int i1), .val (.int v1)] [(.int (i1 + (3 : Int32))), (.ref aa)])) _
    refine X0.baloadBytes hx (j := (i1 + (3 : Int32))) (v := (.int (v1.toInt8.toInt32))) (by rw [e0]; exact Ar4.1) (State.isArrayOf_alike hZ.alike Ar4.2.1) Ar4.2.2 hin4 (H4.at hin4 hr4.2) (g := (mkF m 41 #[.val (.ref aa), .val (.int i1), .val (.int v1)] [(.int (i1 + (3 : Int32))), (.ref aa)])) rfl rfl (hb hby own_d12_41) _ ?_
    show Steps p.tables e below (s₁.setTop (mkF m 42 #[.val (.ref aa), .val (.int i1), .val (.int v1)] [(.int (v1.toInt8.toInt32))])) _
    refine XS.iloadN X0.here hx rfl (hb hby own_d12_42) rfl ?_
    show Steps p.tables e below (s₁.setTop (mkF m 43 #[.val (.ref aa), .val (.int i1), .val (.int v1)] [(.int v1), (.int (v1.toInt8.toInt32))])) _
    refine XS.i2b X0.here hx rfl (hb hby own_d12_43) rfl ?_
    show Steps p.tables e below (s₁.setTop (mkF m 44 #[.val (.ref aa), .val (.int i1), .val (.int v1)] [(.int (v1.toInt8.toInt32)), (.int (v1.toInt8.toInt32))])) _
    refine XS.icmpNo X0.here hx rfl (hb hby own_d12_44) rfl (teq (rfl : (v1.toInt8.toInt32) = (v1.toInt8.toInt32))).2 ?_
    show Steps p.tables e below (s₁.setTop (mkF m 47 #[.val (.ref aa), .val (.int i1), .val (.int v1)] [])) _
    refine XS.iconst X0.here hx rfl (hb hby own_d12_47) ?_
    show Steps p.tables e below (s₁.setTop (mkF m 48 #[.val (.ref aa), .val (.int i1), .val (.int v1)] [(.int (1 : Int32))])) _
    refine XS.goto X0.here hx rfl (pc0 := 48) (pc' := 52) rfl (hb hby own_d12_48) (by decide) (by decide) ?_
    show Steps p.tables e below (s₁.setTop (mkF m 52 #[.val (.ref aa), .val (.int i1), .val (.int v1)] [(.int (1 : Int32))])) _
    exact retN X0 hx (t := .boolean) Bd.returns (by simp) (hb hby own_d12_52) hr
  · show own_Q_own_r32 Z aa i1 v1 ka za DD PA PB h0 n0 _ s₁.heap _
    rw [e0]
    exact ⟨rfl, N0, rfl⟩
theorem own_pd4 : parseMethodDescriptor "([BII)Z" = some ⟨[(.array .byte), .int, .int], some .boolean⟩ := by decide +kernel
theorem own_d13_0 : decode method_4_code 0 = .ok (.aload_n 0, 1) := by decide +kernel
theorem own_d13_1 : decode method_4_code 1 = .ok (.iload_n 1, 1) := by decide +kernel
theorem own_d13_2 : decode method_4_code 2 = .ok (.lload_n 2, 1) := by decide +kernel
theorem own_d13_3 : decode method_4_code 3 = .ok (.bipush 32, 2) := by decide +kernel
theorem own_d13_5 : decode method_4_code 5 = .ok (.lushr, 1) := by decide +kernel
theorem own_d13_6 : decode method_4_code 6 = .ok (.l2i, 1) := by decide +kernel
theorem own_d13_7 : decode method_4_code 7 = .ok (.invokestatic 7, 3) := by decide +kernel
theorem own_d13_10 : decode method_4_code 10 = .ok (.ifCond .eq 19, 3) := by decide +kernel
theorem own_d13_13 : decode method_4_code 13 = .ok (.aload_n 0, 1) := by decide +kernel
theorem own_d13_14 : decode method_4_code 14 = .ok (.iload_n 1, 1) := by decide +kernel
theorem own_d13_15 : decode method_4_code 15 = .ok (.iconst 4, 1) := by decide +kernel
theorem own_d13_16 : decode method_4_code 16 = .ok (.iadd, 1) := by decide +kernel
theorem own_d13_17 : decode method_4_code 17 = .ok (.lload_n 2, 1) := by decide +kernel
theorem own_d13_18 : decode method_4_code 18 = .ok (.l2i, 1) := by decide +kernel
theorem own_d13_19 : decode method_4_code 19 = .ok (.invokestatic 7, 3) := by decide +kernel
theorem own_d13_22 : decode method_4_code 22 = .ok (.ifCond .eq 7, 3) := by decide +kernel
theorem own_d13_25 : decode method_4_code 25 = .ok (.iconst 1, 1) := by decide +kernel
theorem own_d13_26 : decode method_4_code 26 = .ok (.goto 4, 3) := by decide +kernel
theorem own_d13_30 : decode method_4_code 30 = .ok (.ireturn, 1) := by decide +kernel
theorem own_ef13 (m : MethodId) (x0 : Addr) (x1 : Int32) (x2 : Int64) : entryFrame m #[(.ref x0), (.int x1), (.long x2)] 4 = mkF m 0 #[.val (.ref x0), .val (.int x1), .val (.long x2), .second] [] := by first | (simp [entryFrame, mkF, argsToLocals, Value.category]; done) | rfl
def own_Q_own_r64 (Z : State) (aa : Addr) (i1 : Int32) (v1 : Int64) (ka : ClassId) (za : Int32) (DD : List Int32) (PA : List Int32) (PB : List Int32) (h0 : Heap) (n0 : Nat) (v : Option Value) (h : Heap) (L : List Loc) : Prop := v = some (.int (1 : Int32)) ∧ Fr n0 L ∧ h = h0
set_option maxRecDepth 65536 in
set_option maxHeartbeats 40000000 in
theorem own_r64 (l : Launch) (Z : State) (a0 : Array Value) (hw : ∀ d ∈ tables_1, d.before a0 Z = true) (ws : List Jvm.Cond) (aa : Addr) (i1 : Int32) (v1 : Int64) (ka : ClassId) (za : Int32) (DD : List Int32) (PA : List Int32) (PB : List Int32) (h0 : Heap) (n0 : Nat) (Z0 : n0 ≤ h0.size) (Va : Arv Z h0 aa ka .byte za (List.map Value.int DD) (.int (0 : Int32))) (hD : DD = PA ++ (own_l64 v1 ++ PB)) (ha : i1.toInt = (PA.length : Int)) (hza : za.toInt = (DD.length : Int)) (hsm : (DD.length : Int) ≤ 200) :
    MetFree l (⟨"com/example/vigilant_consumer/vigilantconsumer/ProtocolWriterToByteArrayPinLaw", "int64At", "([BIJ)Z"⟩ : MethodName) (head1 (Jvm.Cond.code (⟨"com/example/vigilant_consumer/vigilantconsumer/ProtocolWriterToByteArrayPinLaw", "int64At", "([BIJ)Z"⟩ : MethodName) method_4_code 4 (some .boolean) :: ws) ({ frames := 1, cells := 0, slots := 0, locals := 14 } : Room)) (fun as_ U => as_ = #[(.ref aa), (.int i1), (.long v1)] ∧ Z.Warmed39 U.vm ∧ U.heap = h0) (fun _ _ _ _ _ => True) (fun _ U o U' => ∃ v L, o = .returned v ∧ own_Q_own_r64 Z aa i1 v1 ka za DD PA PB h0 n0 v U'.heap L ∧ FrameEnd U o U' L ({ frames := 1, cells := 0, slots := 0, locals := 14 } : Room).cells ({ frames := 1, cells := 0, slots := 0, locals := 14 } : Room).slots) := by
  refine MetFree.of_bodySF (plainFor_of_name own_pn2) hisR ?_
  intro p e s m args below meth c s₁ Bd hml0 hP hK
  obtain ⟨rfl, hZ, hh⟩ := hP
  have hx := Bd.exec
  have hby := Bd.bytes
  have hml : c.maxLocals = 4 := hml0
  have hown : s.vm.findClass "com/example/vigilant_consumer/vigilantconsumer/ProtocolWriterToByteArrayPinLaw" = some m.cls := findClass_of_methodNamed Bd.named
  have hnm := (name_of_methodNamed Bd.named Bd.method).1
  have X0 : Stand p l e ({ frames := 1, cells := 0, slots := 0, locals := 14 } : Room) s m #[(.ref aa), (.int i1), (.long v1)] below meth c s₁ [] 0 0 := Stand.of_body Bd
  have e0 : s₁.heap = h0 := by rw [← hh, Bd.state]; rfl
  have N0 := Fr.nil n0
  have pre0 : ∀ t, Steps p.tables e below (s₁.setTop (mkF m 0 #[.val (.ref aa), .val (.int i1), .val (.long v1), .second] [])) t → Steps p.tables e below (s₁.setTop (entryFrame m #[(.ref aa), (.int i1), (.long v1)] 4)) t := fun t k => castTop (own_ef13 m aa i1 v1) k
  obtain ⟨_, _, ⟨T1, L1, k1, n1⟩, -, X1, ⟨Lc1, hQ1, l1, y1, z1⟩, st1⟩ := Jvm.LawKit.callS X0 hx (y := (⟨"com/example/vigilant_consumer/vigilantconsumer/ProtocolWriterToByteArrayPinLaw", "int32At", "([BII)Z"⟩ : MethodName)) hown (mvT hZ (hw _ (List.mem_of_getElem? (i := 59) rfl))) (mvT hZ (hw _ (List.mem_of_getElem? (i := 60) rfl))) (mvT hZ (hw _ (List.mem_of_getElem? (i := 57) rfl))) (mvT hZ (hw _ (List.mem_of_getElem? (i := 61) rfl))) (by decide) (backOf (W := 0) (own_r32 l Z a0 hw [] aa i1 (((v1.toUInt64 >>> ((32 : Int32) &&& 0x3f).toInt64.toUInt64).toInt64).toInt32) ka za DD PA (own_l32 (v1.toInt32) ++ PB) h0 n0 Z0 Va (by rw [hD]; simp only [own_l64, List.append_assoc]) ha hza hsm) hZ (hw _ (List.mem_of_getElem? (i := 61) rfl)) (hw _ (List.mem_of_getElem? (i := 57) rfl)) (by decide) (by decide)) (g := (mkF m 7 #[.val (.ref aa), .val (.int i1), .val (.long v1), .second] [(.int (((v1.toUInt64 >>> ((32 : Int32) &&& 0x3f).toInt64.toUInt64).toInt64).toInt32)), (.int i1), (.ref aa)])) rfl (by rw [hml]; rfl) (argsL := [(.ref aa), (.int i1), (.int (((v1.toUInt64 >>> ((32 : Int32) &&& 0x3f).toInt64.toUInt64).toInt64).toInt32))]) (rest := []) (lenOf own_pd4 rfl) rfl (by show 2 * 0 + _ ≤ _; exact Nat.le_of_eq rfl) (hb hby own_d13_7) (fun _ _ => ⟨rfl, e0, (by decide : 0 + 0 ≤ _), (by decide : 0 + 0 ≤ _)⟩)
  dsimp only [Pt.U, Pt.locs, Pt.cells, Pt.slots] at X1 l1 y1 z1 st1 hQ1
  subst l1 y1 z1
  obtain ⟨rfl, N1q, e1⟩ := hQ1
  have N1 := Fr.app N0 N1q
  obtain ⟨_, _, ⟨T2, L2, k2, n2⟩, -, X2, ⟨Lc2, hQ2, l2, y2, z2⟩, st2⟩ := Jvm.LawKit.callS X1 hx (y := (⟨"com/example/vigilant_consumer/vigilantconsumer/ProtocolWriterToByteArrayPinLaw", "int32At", "([BII)Z"⟩ : MethodName)) hown (mvT hZ (hw _ (List.mem_of_getElem? (i := 59) rfl))) (mvT hZ (hw _ (List.mem_of_getElem? (i := 60) rfl))) (mvT hZ (hw _ (List.mem_of_getElem? (i := 57) rfl))) (mvT hZ (hw _ (List.mem_of_getElem? (i := 61) rfl))) (by decide) (backOf (W := 0) (own_r32 l Z a0 hw [] aa (i1 + (4 : Int32)) (v1.toInt32) ka za DD (PA ++ own_l32 (((v1.toUInt64 >>> ((32 : Int32) &&& 0x3f).toInt64.toUInt64).toInt64).toInt32)) PB h0 n0 Z0 Va (by rw [hD]; simp only [own_l64, List.append_assoc]) (own_hzA ha (show (4 : Int32).toInt = ((own_l32 (((v1.toUInt64 >>> ((32 : Int32) &&& 0x3f).toInt64.toUInt64).toInt64).toInt32)).length : Int) from rfl) (by show _ + (4 : Int) ≤ 1000; have q_ := congrArg List.length hD; simp only [List.length_append] at q_; omega)) hza hsm) hZ (hw _ (List.mem_of_getElem? (i := 61) rfl)) (hw _ (List.mem_of_getElem? (i := 57) rfl)) (by decide) (by decide)) (g := (mkF m 19 #[.val (.ref aa), .val (.int i1), .val (.long v1), .second] [(.int (v1.toInt32)), (.int (i1 + (4 : Int32))), (.ref aa)])) rfl (by rw [hml]; rfl) (argsL := [(.ref aa), (.int (i1 + (4 : Int32))), (.int (v1.toInt32))]) (rest := []) (lenOf own_pd4 rfl) rfl (by show 2 * 0 + _ ≤ _; exact Nat.le_of_eq rfl) (hb hby own_d13_19) (fun _ _ => ⟨rfl, e1, (by decide : 0 + 0 ≤ _), (by decide : 0 + 0 ≤ _)⟩)
  dsimp only [Pt.U, Pt.locs, Pt.cells, Pt.slots] at X2 l2 y2 z2 st2 hQ2
  subst l2 y2 z2
  obtain ⟨rfl, N2q, e2⟩ := hQ2
  have N2 := Fr.app N1 N2q
  obtain ⟨fs, hr, hrun, hended, hW, hsame⟩ := X2.leave (v := some (.int (1 : Int32))) (fun h => by rw [Bd.returns] at h; cases h)
  refine ⟨_, _, pre0 _ ?_, hrun, hended, _, _, rfl, ?_, ⟨_, rfl⟩, hW, hsame.mono (by decide) (by decide)⟩
  · show Steps p.tables e below (s₁.setTop (mkF m 0 #[.val (.ref aa), .val (.int i1), .val (.long v1), .second] [])) _
    refine XS.aloadN X0.here hx rfl (hb hby own_d13_0) rfl rfl ?_
    show Steps p.tables e below (s₁.setTop (mkF m 1 #[.val (.ref aa), .val (.int i1), .val (.long v1), .second] [(.ref aa)])) _
    refine XS.iloadN X0.here hx rfl (hb hby own_d13_1) rfl ?_
    show Steps p.tables e below (s₁.setTop (mkF m 2 #[.val (.ref aa), .val (.int i1), .val (.long v1), .second] [(.int i1), (.ref aa)])) _
    refine XS.lloadN X0.here hx rfl (hb hby own_d13_2) rfl ?_
    show Steps p.tables e below (s₁.setTop (mkF m 3 #[.val (.ref aa), .val (.int i1), .val (.long v1), .second] [(.long v1), (.int i1), (.ref aa)])) _
    refine XS.bipush X0.here hx rfl (hb hby own_d13_3) ?_
    show Steps p.tables e below (s₁.setTop (mkF m 5 #[.val (.ref aa), .val (.int i1), .val (.long v1), .second] [(.int (32 : Int32)), (.long v1), (.int i1), (.ref aa)])) _
    refine XS.lushr X0.here hx rfl (hb hby own_d13_5) rfl ?_
    show Steps p.tables e below (s₁.setTop (mkF m 6 #[.val (.ref aa), .val (.int i1), .val (.long v1), .second] [(.long ((v1.toUInt64 >>> ((32 : Int32) &&& 0x3f).toInt64.toUInt64).toInt64)), (.int i1), (.ref aa)])) _
    refine XS.l2i X0.here hx rfl (hb hby own_d13_6) rfl ?_
    show Steps p.tables e below (s₁.setTop (mkF m 7 #[.val (.ref aa), .val (.int i1), .val (.long v1), .second] [(.int (((v1.toUInt64 >>> ((32 : Int32) &&& 0x3f).toInt64.toUInt64).toInt64).toInt32)), (.int i1), (.ref aa)])) _
    refine st1 _ ?_
    show Steps p.tables e below (T1.setTop (mkF m 10 #[.val (.ref aa), .val (.int i1), .val (.long v1), .second] [(.int (1 : Int32))])) _
    refine XS.ifNo X1.here hx rfl (hb hby own_d13_10) rfl ((if0 _ _).trans (feq (by decide : ¬ ((1 : Int32) = (0 : Int32)))).1) ?_
    show Steps p.tables e below (T1.setTop (mkF m 13 #[.val (.ref aa), .val (.int i1), .val (.long v1), .second] [])) _
    refine XS.aloadN X1.here hx rfl (hb hby own_d13_13) rfl rfl ?_
    show Steps p.tables e below (T1.setTop (mkF m 14 #[.val (.ref aa), .val (.int i1), .val (.long v1), .second] [(.ref aa)])) _
    refine XS.iloadN X1.here hx rfl (hb hby own_d13_14) rfl ?_
    show Steps p.tables e below (T1.setTop (mkF m 15 #[.val (.ref aa), .val (.int i1), .val (.long v1), .second] [(.int i1), (.ref aa)])) _
    refine XS.iconst X1.here hx rfl (hb hby own_d13_15) ?_
    show Steps p.tables e below (T1.setTop (mkF m 16 #[.val (.ref aa), .val (.int i1), .val (.long v1), .second] [(.int (4 : Int32)), (.int i1), (.ref aa)])) _
    refine XS.iadd X1.here hx rfl (hb hby own_d13_16) rfl ?_
    show Steps p.tables e below (T1.setTop (mkF m 17 #[.val (.ref aa), .val (.int i1), .val (.long v1), .second] [(.int (i1 + (4 : Int32))), (.ref aa)])) _
    refine XS.lloadN X1.here hx rfl (hb hby own_d13_17) rfl ?_
    show Steps p.tables e below (T1.setTop (mkF m 18 #[.val (.ref aa), .val (.int i1), .val (.long v1), .second] [(.long v1), (.int (i1 + (4 : Int32))), (.ref aa)])) _
    refine XS.l2i X1.here hx rfl (hb hby own_d13_18) rfl ?_
    show Steps p.tables e below (T1.setTop (mkF m 19 #[.val (.ref aa), .val (.int i1), .val (.long v1), .second] [(.int (v1.toInt32)), (.int (i1 + (4 : Int32))), (.ref aa)])) _
    refine st2 _ ?_
    show Steps p.tables e below (T2.setTop (mkF m 22 #[.val (.ref aa), .val (.int i1), .val (.long v1), .second] [(.int (1 : Int32))])) _
    refine XS.ifNo X2.here hx rfl (hb hby own_d13_22) rfl ((if0 _ _).trans (feq (by decide : ¬ ((1 : Int32) = (0 : Int32)))).1) ?_
    show Steps p.tables e below (T2.setTop (mkF m 25 #[.val (.ref aa), .val (.int i1), .val (.long v1), .second] [])) _
    refine XS.iconst X2.here hx rfl (hb hby own_d13_25) ?_
    show Steps p.tables e below (T2.setTop (mkF m 26 #[.val (.ref aa), .val (.int i1), .val (.long v1), .second] [(.int (1 : Int32))])) _
    refine XS.goto X2.here hx rfl (pc0 := 26) (pc' := 30) rfl (hb hby own_d13_26) (by decide) (by decide) ?_
    show Steps p.tables e below (T2.setTop (mkF m 30 #[.val (.ref aa), .val (.int i1), .val (.long v1), .second] [(.int (1 : Int32))])) _
    exact retN X2 hx (t := .boolean) Bd.returns (by simp) (hb hby own_d13_30) hr
  · show own_Q_own_r64 Z aa i1 v1 ka za DD PA PB h0 n0 _ T2.heap _
    rw [e2]
    exact ⟨rfl, N2, rfl⟩
theorem own_pd5 : parseMethodDescriptor "()V" = some ⟨[], none⟩ := by decide +kernel
theorem own_pd6 : parseMethodDescriptor "(J)V" = some ⟨[.long], none⟩ := by decide +kernel
theorem own_pd7 : parseMethodDescriptor "()[B" = some ⟨[], some (.array .byte)⟩ := by decide +kernel
theorem own_pd8 : parseMethodDescriptor "([BIJ)Z" = some ⟨[(.array .byte), .int, .long], some .boolean⟩ := by decide +kernel
theorem own_ef0 (m : MethodId) (x0 : Int32) (x1 : Int32) (x2 : Int32) (x3 : Int64) (x4 : Int32) (x5 : Int32) : entryFrame m #[(.int x0), (.int x1), (.int x2), (.long x3), (.int x4), (.int x5)] maxLocals = mkF m 0 #[.val (.int x0), .val (.int x1), .val (.int x2), .val (.long x3), .second, .val (.int x4), .val (.int x5), .unset, .unset, .unset, .unset, .unset, .unset, .unset, .unset, .unset, .unset, .unset, .unset, .unset, .unset, .unset] [] := by first | (simp [entryFrame, mkF, argsToLocals, Value.category, maxLocals]; done) | rfl
def own_Q_own_law (Z : State) (x0 : Int32) (x1 : Int32) (x2 : Int32) (x3 : Int64) (x4 : Int32) (x5 : Int32) (h0 : Heap) (n0 : Nat) (v : Option Value) (h : Heap) (L : List Loc) : Prop := v = some (.int 1) ∧ Fr n0 L
set_option maxRecDepth 65536 in
set_option maxHeartbeats 40000000 in
theorem own_law (l : Launch) (Z : State) (a0 : Array Value) (hw : ∀ d ∈ tables_1, d.before a0 Z = true) (ws : List Jvm.Cond) (x0 : Int32) (x1 : Int32) (x2 : Int32) (x3 : Int64) (x4 : Int32) (x5 : Int32) (h0 : Heap) (n0 : Nat) (Z0 : n0 ≤ h0.size) :
    MetFree l x (head1 (Jvm.Cond.code x code maxLocals ret :: ws) room_1) (fun as_ U => as_ = #[(.int x0), (.int x1), (.int x2), (.long x3), (.int x4), (.int x5)] ∧ Z.Warmed39 U.vm ∧ U.heap = h0) (fun _ _ _ _ _ => True) (fun _ U o U' => ∃ v L, o = .returned v ∧ own_Q_own_law Z x0 x1 x2 x3 x4 x5 h0 n0 v U'.heap L ∧ FrameEnd U o U' L room_1.cells room_1.slots) := by
  refine MetFree.of_bodySF (plainFor_of_name own_pn2) hisR ?_
  intro p e s m args below meth c s₁ Bd hml0 hP hK
  obtain ⟨rfl, hZ, hh⟩ := hP
  have hx := Bd.exec
  have hby := Bd.bytes
  have hml : c.maxLocals = 22 := hml0
  have hown : s.vm.findClass "com/example/vigilant_consumer/vigilantconsumer/ProtocolWriterToByteArrayPinLaw" = some m.cls := findClass_of_methodNamed Bd.named
  have hnm := (name_of_methodNamed Bd.named Bd.method).1
  have X0 : Stand p l e room_1 s m #[(.int x0), (.int x1), (.int x2), (.long x3), (.int x4), (.int x5)] below meth c s₁ [] 0 0 := Stand.of_body Bd
  have e0 : s₁.heap = h0 := by rw [← hh, Bd.state]; rfl
  have N0 := Fr.nil n0
  have pre0 : ∀ t, Steps p.tables e below (s₁.setTop (mkF m 0 #[.val (.int x0), .val (.int x1), .val (.int x2), .val (.long x3), .second, .val (.int x4), .val (.int x5), .unset, .unset, .unset, .unset, .unset, .unset, .unset, .unset, .unset, .unset, .unset, .unset, .unset, .unset, .unset] [])) t → Steps p.tables e below (s₁.setTop (entryFrame m #[(.int x0), (.int x1), (.int x2), (.long x3), (.int x4), (.int x5)] maxLocals)) t := fun t k => castTop (own_ef0 m x0 x1 x2 x3 x4 x5) k
  have pre2 : ∀ t, Steps p.tables e below (s₁.setTop (mkF m 11 #[.val (.int x0), .val (.int x1), .val (.int x2), .val (.long x3), .second, .val (.int x4), .val (.int x5), .unset, .unset, .unset, .unset, .unset, .unset, .unset, .unset, .unset, .unset, .unset, .unset, .unset, .unset, .unset] [(.int (if ¬ ((x0 &&& (1 : Int32)) = (0 : Int32)) then (1 : Int32) else (0 : Int32)))])) t → Steps p.tables e below (s₁.setTop (entryFrame m #[(.int x0), (.int x1), (.int x2), (.long x3), (.int x4), (.int x5)] maxLocals)) t := fun t k => pre0 t (by
    show Steps p.tables e below (s₁.setTop (mkF m 0 #[.val (.int x0), .val (.int x1), .val (.int x2), .val (.long x3), .second, .val (.int x4), .val (.int x5), .unset, .unset, .unset, .unset, .unset, .unset, .unset, .unset, .unset, .unset, .unset, .unset, .unset, .unset, .unset] [])) _
    refine XS.iloadN X0.here hx rfl (hb hby at_0) rfl ?_
    show Steps p.tables e below (s₁.setTop (mkF m 1 #[.val (.int x0), .val (.int x1), .val (.int x2), .val (.long x3), .second, .val (.int x4), .val (.int x5), .unset, .unset, .unset, .unset, .unset, .unset, .unset, .unset, .unset, .unset, .unset, .unset, .unset, .unset, .unset] [(.int x0)])) _
    refine XS.iconst X0.here hx rfl (hb hby at_1) ?_
    show Steps p.tables e below (s₁.setTop (mkF m 2 #[.val (.int x0), .val (.int x1), .val (.int x2), .val (.long x3), .second, .val (.int x4), .val (.int x5), .unset, .unset, .unset, .unset, .unset, .unset, .unset, .unset, .unset, .unset, .unset, .unset, .unset, .unset, .unset] [(.int (1 : Int32)), (.int x0)])) _
    refine XS.iand X0.here hx rfl (hb hby at_2) rfl ?_
    show Steps p.tables e below (s₁.setTop (mkF m 3 #[.val (.int x0), .val (.int x1), .val (.int x2), .val (.long x3), .second, .val (.int x4), .val (.int x5), .unset, .unset, .unset, .unset, .unset, .unset, .unset, .unset, .unset, .unset, .unset, .unset, .unset, .unset, .unset] [(.int (x0 &&& (1 : Int32)))])) _
    by_cases hc1 : (x0 &&& (1 : Int32)) = (0 : Int32)
    · skip
      refine XS.ifYes X0.here hx rfl (pc0 := 3) (pc' := 10) rfl (hb hby at_3) rfl ((if0 _ _).trans (teq hc1).1) (by decide) (by decide) ?_
      show Steps p.tables e below (s₁.setTop (mkF m 10 #[.val (.int x0), .val (.int x1), .val (.int x2), .val (.long x3), .second, .val (.int x4), .val (.int x5), .unset, .unset, .unset, .unset, .unset, .unset, .unset, .unset, .unset, .unset, .unset, .unset, .unset, .unset, .unset] [])) _
      refine XS.iconst X0.here hx rfl (hb hby at_10) ?_
      exact castTop (congrArg (fun z_ => (mkF m 11 #[.val (.int x0), .val (.int x1), .val (.int x2), .val (.long x3), .second, .val (.int x4), .val (.int x5), .unset, .unset, .unset, .unset, .unset, .unset, .unset, .unset, .unset, .unset, .unset, .unset, .unset, .unset, .unset] [(.int z_)])) (show (0 : Int32) = (if ¬ ((x0 &&& (1 : Int32)) = (0 : Int32)) then (1 : Int32) else (0 : Int32)) from by rw [if_neg (not_not_intro hc1)])) k
    · skip
      refine XS.ifNo X0.here hx rfl (hb hby at_3) rfl ((if0 _ _).trans (feq hc1).1) ?_
      show Steps p.tables e below (s₁.setTop (mkF m 6 #[.val (.int x0), .val (.int x1), .val (.int x2), .val (.long x3), .second, .val (.int x4), .val (.int x5), .unset, .unset, .unset, .unset, .unset, .unset, .unset, .unset, .unset, .unset, .unset, .unset, .unset, .unset, .unset] [])) _
      refine XS.iconst X0.here hx rfl (hb hby at_6) ?_
      show Steps p.tables e below (s₁.setTop (mkF m 7 #[.val (.int x0), .val (.int x1), .val (.int x2), .val (.long x3), .second, .val (.int x4), .val (.int x5), .unset, .unset, .unset, .unset, .unset, .unset, .unset, .unset, .unset, .unset, .unset, .unset, .unset, .unset, .unset] [(.int (1 : Int32))])) _
      refine XS.goto X0.here hx rfl (pc0 := 7) (pc' := 11) rfl (hb hby at_7) (by decide) (by decide) ?_
      exact castTop (congrArg (fun z_ => (mkF m 11 #[.val (.int x0), .val (.int x1), .val (.int x2), .val (.long x3), .second, .val (.int x4), .val (.int x5), .unset, .unset, .unset, .unset, .unset, .unset, .unset, .unset, .unset, .unset, .unset, .unset, .unset, .unset, .unset] [(.int z_)])) (show (1 : Int32) = (if ¬ ((x0 &&& (1 : Int32)) = (0 : Int32)) then (1 : Int32) else (0 : Int32)) from by rw [if_pos hc1])) k)
  have pre4 : ∀ t, Steps p.tables e below (s₁.setTop (mkF m 24 #[.val (.int x0), .val (.int x1), .val (.int x2), .val (.long x3), .second, .val (.int x4), .val (.int x5), .val (.int (if ¬ ((x0 &&& (1 : Int32)) = (0 : Int32)) then (1 : Int32) else (0 : Int32))), .unset, .unset, .unset, .unset, .unset, .unset, .unset, .unset, .unset, .unset, .unset, .unset, .unset, .unset] [(.int (if ¬ ((x0 &&& (2 : Int32)) = (0 : Int32)) then (1 : Int32) else (0 : Int32)))])) t → Steps p.tables e below (s₁.setTop (entryFrame m #[(.int x0), (.int x1), (.int x2), (.long x3), (.int x4), (.int x5)] maxLocals)) t := fun t k => pre2 t (by
    show Steps p.tables e below (s₁.setTop (mkF m 11 #[.val (.int x0), .val (.int x1), .val (.int x2), .val (.long x3), .second, .val (.int x4), .val (.int x5), .unset, .unset, .unset, .unset, .unset, .unset, .unset, .unset, .unset, .unset, .unset, .unset, .unset, .unset, .unset] [(.int (if ¬ ((x0 &&& (1 : Int32)) = (0 : Int32)) then (1 : Int32) else (0 : Int32)))])) _
    refine XS.istore X0.here hx rfl (hb hby at_11) rfl (l' := #[.val (.int x0), .val (.int x1), .val (.int x2), .val (.long x3), .second, .val (.int x4), .val (.int x5), .val (.int (if ¬ ((x0 &&& (1 : Int32)) = (0 : Int32)) then (1 : Int32) else (0 : Int32))), .unset, .unset, .unset, .unset, .unset, .unset, .unset, .unset, .unset, .unset, .unset, .unset, .unset, .unset]) rfl ?_
    show Steps p.tables e below (s₁.setTop (mkF m 13 #[.val (.int x0), .val (.int x1), .val (.int x2), .val (.long x3), .second, .val (.int x4), .val (.int x5), .val (.int (if ¬ ((x0 &&& (1 : Int32)) = (0 : Int32)) then (1 : Int32) else (0 : Int32))), .unset, .unset, .unset, .unset, .unset, .unset, .unset, .unset, .unset, .unset, .unset, .unset, .unset, .unset] [])) _
    refine XS.iloadN X0.here hx rfl (hb hby at_13) rfl ?_
    show Steps p.tables e below (s₁.setTop (mkF m 14 #[.val (.int x0), .val (.int x1), .val (.int x2), .val (.long x3), .second, .val (.int x4), .val (.int x5), .val (.int (if ¬ ((x0 &&& (1 : Int32)) = (0 : Int32)) then (1 : Int32) else (0 : Int32))), .unset, .unset, .unset, .unset, .unset, .unset, .unset, .unset, .unset, .unset, .unset, .unset, .unset, .unset] [(.int x0)])) _
    refine XS.iconst X0.here hx rfl (hb hby at_14) ?_
    show Steps p.tables e below (s₁.setTop (mkF m 15 #[.val (.int x0), .val (.int x1), .val (.int x2), .val (.long x3), .second, .val (.int x4), .val (.int x5), .val (.int (if ¬ ((x0 &&& (1 : Int32)) = (0 : Int32)) then (1 : Int32) else (0 : Int32))), .unset, .unset, .unset, .unset, .unset, .unset, .unset, .unset, .unset, .unset, .unset, .unset, .unset, .unset] [(.int (2 : Int32)), (.int x0)])) _
    refine XS.iand X0.here hx rfl (hb hby at_15) rfl ?_
    show Steps p.tables e below (s₁.setTop (mkF m 16 #[.val (.int x0), .val (.int x1), .val (.int x2), .val (.long x3), .second, .val (.int x4), .val (.int x5), .val (.int (if ¬ ((x0 &&& (1 : Int32)) = (0 : Int32)) then (1 : Int32) else (0 : Int32))), .unset, .unset, .unset, .unset, .unset, .unset, .unset, .unset, .unset, .unset, .unset, .unset, .unset, .unset] [(.int (x0 &&& (2 : Int32)))])) _
    by_cases hc3 : (x0 &&& (2 : Int32)) = (0 : Int32)
    · skip
      refine XS.ifYes X0.here hx rfl (pc0 := 16) (pc' := 23) rfl (hb hby at_16) rfl ((if0 _ _).trans (teq hc3).1) (by decide) (by decide) ?_
      show Steps p.tables e below (s₁.setTop (mkF m 23 #[.val (.int x0), .val (.int x1), .val (.int x2), .val (.long x3), .second, .val (.int x4), .val (.int x5), .val (.int (if ¬ ((x0 &&& (1 : Int32)) = (0 : Int32)) then (1 : Int32) else (0 : Int32))), .unset, .unset, .unset, .unset, .unset, .unset, .unset, .unset, .unset, .unset, .unset, .unset, .unset, .unset] [])) _
      refine XS.iconst X0.here hx rfl (hb hby at_23) ?_
      exact castTop (congrArg (fun z_ => (mkF m 24 #[.val (.int x0), .val (.int x1), .val (.int x2), .val (.long x3), .second, .val (.int x4), .val (.int x5), .val (.int (if ¬ ((x0 &&& (1 : Int32)) = (0 : Int32)) then (1 : Int32) else (0 : Int32))), .unset, .unset, .unset, .unset, .unset, .unset, .unset, .unset, .unset, .unset, .unset, .unset, .unset, .unset] [(.int z_)])) (show (0 : Int32) = (if ¬ ((x0 &&& (2 : Int32)) = (0 : Int32)) then (1 : Int32) else (0 : Int32)) from by rw [if_neg (not_not_intro hc3)])) k
    · skip
      refine XS.ifNo X0.here hx rfl (hb hby at_16) rfl ((if0 _ _).trans (feq hc3).1) ?_
      show Steps p.tables e below (s₁.setTop (mkF m 19 #[.val (.int x0), .val (.int x1), .val (.int x2), .val (.long x3), .second, .val (.int x4), .val (.int x5), .val (.int (if ¬ ((x0 &&& (1 : Int32)) = (0 : Int32)) then (1 : Int32) else (0 : Int32))), .unset, .unset, .unset, .unset, .unset, .unset, .unset, .unset, .unset, .unset, .unset, .unset, .unset, .unset] [])) _
      refine XS.iconst X0.here hx rfl (hb hby at_19) ?_
      show Steps p.tables e below (s₁.setTop (mkF m 20 #[.val (.int x0), .val (.int x1), .val (.int x2), .val (.long x3), .second, .val (.int x4), .val (.int x5), .val (.int (if ¬ ((x0 &&& (1 : Int32)) = (0 : Int32)) then (1 : Int32) else (0 : Int32))), .unset, .unset, .unset, .unset, .unset, .unset, .unset, .unset, .unset, .unset, .unset, .unset, .unset, .unset] [(.int (1 : Int32))])) _
      refine XS.goto X0.here hx rfl (pc0 := 20) (pc' := 24) rfl (hb hby at_20) (by decide) (by decide) ?_
      exact castTop (congrArg (fun z_ => (mkF m 24 #[.val (.int x0), .val (.int x1), .val (.int x2), .val (.long x3), .second, .val (.int x4), .val (.int x5), .val (.int (if ¬ ((x0 &&& (1 : Int32)) = (0 : Int32)) then (1 : Int32) else (0 : Int32))), .unset, .unset, .unset, .unset, .unset, .unset, .unset, .unset, .unset, .unset, .unset, .unset, .unset, .unset] [(.int z_)])) (show (1 : Int32) = (if ¬ ((x0 &&& (2 : Int32)) = (0 : Int32)) then (1 : Int32) else (0 : Int32)) from by rw [if_pos hc3])) k)
  have pre6 : ∀ t, Steps p.tables e below (s₁.setTop (mkF m 37 #[.val (.int x0), .val (.int x1), .val (.int x2), .val (.long x3), .second, .val (.int x4), .val (.int x5), .val (.int (if ¬ ((x0 &&& (1 : Int32)) = (0 : Int32)) then (1 : Int32) else (0 : Int32))), .val (.int (if ¬ ((x0 &&& (2 : Int32)) = (0 : Int32)) then (1 : Int32) else (0 : Int32))), .unset, .unset, .unset, .unset, .unset, .unset, .unset, .unset, .unset, .unset, .unset, .unset, .unset] [(.int (if ¬ ((x0 &&& (4 : Int32)) = (0 : Int32)) then (1 : Int32) else (0 : Int32)))])) t → Steps p.tables e below (s₁.setTop (entryFrame m #[(.int x0), (.int x1), (.int x2), (.long x3), (.int x4), (.int x5)] maxLocals)) t := fun t k => pre4 t (by
    show Steps p.tables e below (s₁.setTop (mkF m 24 #[.val (.int x0), .val (.int x1), .val (.int x2), .val (.long x3), .second, .val (.int x4), .val (.int x5), .val (.int (if ¬ ((x0 &&& (1 : Int32)) = (0 : Int32)) then (1 : Int32) else (0 : Int32))), .unset, .unset, .unset, .unset, .unset, .unset, .unset, .unset, .unset, .unset, .unset, .unset, .unset, .unset] [(.int (if ¬ ((x0 &&& (2 : Int32)) = (0 : Int32)) then (1 : Int32) else (0 : Int32)))])) _
    refine XS.istore X0.here hx rfl (hb hby at_24) rfl (l' := #[.val (.int x0), .val (.int x1), .val (.int x2), .val (.long x3), .second, .val (.int x4), .val (.int x5), .val (.int (if ¬ ((x0 &&& (1 : Int32)) = (0 : Int32)) then (1 : Int32) else (0 : Int32))), .val (.int (if ¬ ((x0 &&& (2 : Int32)) = (0 : Int32)) then (1 : Int32) else (0 : Int32))), .unset, .unset, .unset, .unset, .unset, .unset, .unset, .unset, .unset, .unset, .unset, .unset, .unset]) rfl ?_
    show Steps p.tables e below (s₁.setTop (mkF m 26 #[.val (.int x0), .val (.int x1), .val (.int x2), .val (.long x3), .second, .val (.int x4), .val (.int x5), .val (.int (if ¬ ((x0 &&& (1 : Int32)) = (0 : Int32)) then (1 : Int32) else (0 : Int32))), .val (.int (if ¬ ((x0 &&& (2 : Int32)) = (0 : Int32)) then (1 : Int32) else (0 : Int32))), .unset, .unset, .unset, .unset, .unset, .unset, .unset, .unset, .unset, .unset, .unset, .unset, .unset] [])) _
    refine XS.iloadN X0.here hx rfl (hb hby at_26) rfl ?_
    show Steps p.tables e below (s₁.setTop (mkF m 27 #[.val (.int x0), .val (.int x1), .val (.int x2), .val (.long x3), .second, .val (.int x4), .val (.int x5), .val (.int (if ¬ ((x0 &&& (1 : Int32)) = (0 : Int32)) then (1 : Int32) else (0 : Int32))), .val (.int (if ¬ ((x0 &&& (2 : Int32)) = (0 : Int32)) then (1 : Int32) else (0 : Int32))), .unset, .unset, .unset, .unset, .unset, .unset, .unset, .unset, .unset, .unset, .unset, .unset, .unset] [(.int x0)])) _
    refine XS.iconst X0.here hx rfl (hb hby at_27) ?_
    show Steps p.tables e below (s₁.setTop (mkF m 28 #[.val (.int x0), .val (.int x1), .val (.int x2), .val (.long x3), .second, .val (.int x4), .val (.int x5), .val (.int (if ¬ ((x0 &&& (1 : Int32)) = (0 : Int32)) then (1 : Int32) else (0 : Int32))), .val (.int (if ¬ ((x0 &&& (2 : Int32)) = (0 : Int32)) then (1 : Int32) else (0 : Int32))), .unset, .unset, .unset, .unset, .unset, .unset, .unset, .unset, .unset, .unset, .unset, .unset, .unset] [(.int (4 : Int32)), (.int x0)])) _
    refine XS.iand X0.here hx rfl (hb hby at_28) rfl ?_
    show Steps p.tables e below (s₁.setTop (mkF m 29 #[.val (.int x0), .val (.int x1), .val (.int x2), .val (.long x3), .second, .val (.int x4), .val (.int x5), .val (.int (if ¬ ((x0 &&& (1 : Int32)) = (0 : Int32)) then (1 : Int32) else (0 : Int32))), .val (.int (if ¬ ((x0 &&& (2 : Int32)) = (0 : Int32)) then (1 : Int32) else (0 : Int32))), .unset, .unset, .unset, .unset, .unset, .unset, .unset, .unset, .unset, .unset, .unset, .unset, .unset] [(.int (x0 &&& (4 : Int32)))])) _
    by_cases hc5 : (x0 &&& (4 : Int32)) = (0 : Int32)
    · skip
      refine XS.ifYes X0.here hx rfl (pc0 := 29) (pc' := 36) rfl (hb hby at_29) rfl ((if0 _ _).trans (teq hc5).1) (by decide) (by decide) ?_
      show Steps p.tables e below (s₁.setTop (mkF m 36 #[.val (.int x0), .val (.int x1), .val (.int x2), .val (.long x3), .second, .val (.int x4), .val (.int x5), .val (.int (if ¬ ((x0 &&& (1 : Int32)) = (0 : Int32)) then (1 : Int32) else (0 : Int32))), .val (.int (if ¬ ((x0 &&& (2 : Int32)) = (0 : Int32)) then (1 : Int32) else (0 : Int32))), .unset, .unset, .unset, .unset, .unset, .unset, .unset, .unset, .unset, .unset, .unset, .unset, .unset] [])) _
      refine XS.iconst X0.here hx rfl (hb hby at_36) ?_
      exact castTop (congrArg (fun z_ => (mkF m 37 #[.val (.int x0), .val (.int x1), .val (.int x2), .val (.long x3), .second, .val (.int x4), .val (.int x5), .val (.int (if ¬ ((x0 &&& (1 : Int32)) = (0 : Int32)) then (1 : Int32) else (0 : Int32))), .val (.int (if ¬ ((x0 &&& (2 : Int32)) = (0 : Int32)) then (1 : Int32) else (0 : Int32))), .unset, .unset, .unset, .unset, .unset, .unset, .unset, .unset, .unset, .unset, .unset, .unset, .unset] [(.int z_)])) (show (0 : Int32) = (if ¬ ((x0 &&& (4 : Int32)) = (0 : Int32)) then (1 : Int32) else (0 : Int32)) from by rw [if_neg (not_not_intro hc5)])) k
    · skip
      refine XS.ifNo X0.here hx rfl (hb hby at_29) rfl ((if0 _ _).trans (feq hc5).1) ?_
      show Steps p.tables e below (s₁.setTop (mkF m 32 #[.val (.int x0), .val (.int x1), .val (.int x2), .val (.long x3), .second, .val (.int x4), .val (.int x5), .val (.int (if ¬ ((x0 &&& (1 : Int32)) = (0 : Int32)) then (1 : Int32) else (0 : Int32))), .val (.int (if ¬ ((x0 &&& (2 : Int32)) = (0 : Int32)) then (1 : Int32) else (0 : Int32))), .unset, .unset, .unset, .unset, .unset, .unset, .unset, .unset, .unset, .unset, .unset, .unset, .unset] [])) _
      refine XS.iconst X0.here hx rfl (hb hby at_32) ?_
      show Steps p.tables e below (s₁.setTop (mkF m 33 #[.val (.int x0), .val (.int x1), .val (.int x2), .val (.long x3), .second, .val (.int x4), .val (.int x5), .val (.int (if ¬ ((x0 &&& (1 : Int32)) = (0 : Int32)) then (1 : Int32) else (0 : Int32))), .val (.int (if ¬ ((x0 &&& (2 : Int32)) = (0 : Int32)) then (1 : Int32) else (0 : Int32))), .unset, .unset, .unset, .unset, .unset, .unset, .unset, .unset, .unset, .unset, .unset, .unset, .unset] [(.int (1 : Int32))])) _
      refine XS.goto X0.here hx rfl (pc0 := 33) (pc' := 37) rfl (hb hby at_33) (by decide) (by decide) ?_
      exact castTop (congrArg (fun z_ => (mkF m 37 #[.val (.int x0), .val (.int x1), .val (.int x2), .val (.long x3), .second, .val (.int x4), .val (.int x5), .val (.int (if ¬ ((x0 &&& (1 : Int32)) = (0 : Int32)) then (1 : Int32) else (0 : Int32))), .val (.int (if ¬ ((x0 &&& (2 : Int32)) = (0 : Int32)) then (1 : Int32) else (0 : Int32))), .unset, .unset, .unset, .unset, .unset, .unset, .unset, .unset, .unset, .unset, .unset, .unset, .unset] [(.int z_)])) (show (1 : Int32) = (if ¬ ((x0 &&& (4 : Int32)) = (0 : Int32)) then (1 : Int32) else (0 : Int32)) from by rw [if_pos hc5])) k)
  have pre8 : ∀ t, Steps p.tables e below (s₁.setTop (mkF m 51 #[.val (.int x0), .val (.int x1), .val (.int x2), .val (.long x3), .second, .val (.int x4), .val (.int x5), .val (.int (if ¬ ((x0 &&& (1 : Int32)) = (0 : Int32)) then (1 : Int32) else (0 : Int32))), .val (.int (if ¬ ((x0 &&& (2 : Int32)) = (0 : Int32)) then (1 : Int32) else (0 : Int32))), .val (.int (if ¬ ((x0 &&& (4 : Int32)) = (0 : Int32)) then (1 : Int32) else (0 : Int32))), .unset, .unset, .unset, .unset, .unset, .unset, .unset, .unset, .unset, .unset, .unset, .unset] [(.int (if ¬ ((x0 &&& (8 : Int32)) = (0 : Int32)) then (1 : Int32) else (0 : Int32)))])) t → Steps p.tables e below (s₁.setTop (entryFrame m #[(.int x0), (.int x1), (.int x2), (.long x3), (.int x4), (.int x5)] maxLocals)) t := fun t k => pre6 t (by
    show Steps p.tables e below (s₁.setTop (mkF m 37 #[.val (.int x0), .val (.int x1), .val (.int x2), .val (.long x3), .second, .val (.int x4), .val (.int x5), .val (.int (if ¬ ((x0 &&& (1 : Int32)) = (0 : Int32)) then (1 : Int32) else (0 : Int32))), .val (.int (if ¬ ((x0 &&& (2 : Int32)) = (0 : Int32)) then (1 : Int32) else (0 : Int32))), .unset, .unset, .unset, .unset, .unset, .unset, .unset, .unset, .unset, .unset, .unset, .unset, .unset] [(.int (if ¬ ((x0 &&& (4 : Int32)) = (0 : Int32)) then (1 : Int32) else (0 : Int32)))])) _
    refine XS.istore X0.here hx rfl (hb hby at_37) rfl (l' := #[.val (.int x0), .val (.int x1), .val (.int x2), .val (.long x3), .second, .val (.int x4), .val (.int x5), .val (.int (if ¬ ((x0 &&& (1 : Int32)) = (0 : Int32)) then (1 : Int32) else (0 : Int32))), .val (.int (if ¬ ((x0 &&& (2 : Int32)) = (0 : Int32)) then (1 : Int32) else (0 : Int32))), .val (.int (if ¬ ((x0 &&& (4 : Int32)) = (0 : Int32)) then (1 : Int32) else (0 : Int32))), .unset, .unset, .unset, .unset, .unset, .unset, .unset, .unset, .unset, .unset, .unset, .unset]) rfl ?_
    show Steps p.tables e below (s₁.setTop (mkF m 39 #[.val (.int x0), .val (.int x1), .val (.int x2), .val (.long x3), .second, .val (.int x4), .val (.int x5), .val (.int (if ¬ ((x0 &&& (1 : Int32)) = (0 : Int32)) then (1 : Int32) else (0 : Int32))), .val (.int (if ¬ ((x0 &&& (2 : Int32)) = (0 : Int32)) then (1 : Int32) else (0 : Int32))), .val (.int (if ¬ ((x0 &&& (4 : Int32)) = (0 : Int32)) then (1 : Int32) else (0 : Int32))), .unset, .unset, .unset, .unset, .unset, .unset, .unset, .unset, .unset, .unset, .unset, .unset] [])) _
    refine XS.iloadN X0.here hx rfl (hb hby at_39) rfl ?_
    show Steps p.tables e below (s₁.setTop (mkF m 40 #[.val (.int x0), .val (.int x1), .val (.int x2), .val (.long x3), .second, .val (.int x4), .val (.int x5), .val (.int (if ¬ ((x0 &&& (1 : Int32)) = (0 : Int32)) then (1 : Int32) else (0 : Int32))), .val (.int (if ¬ ((x0 &&& (2 : Int32)) = (0 : Int32)) then (1 : Int32) else (0 : Int32))), .val (.int (if ¬ ((x0 &&& (4 : Int32)) = (0 : Int32)) then (1 : Int32) else (0 : Int32))), .unset, .unset, .unset, .unset, .unset, .unset, .unset, .unset, .unset, .unset, .unset, .unset] [(.int x0)])) _
    refine XS.bipush X0.here hx rfl (hb hby at_40) ?_
    show Steps p.tables e below (s₁.setTop (mkF m 42 #[.val (.int x0), .val (.int x1), .val (.int x2), .val (.long x3), .second, .val (.int x4), .val (.int x5), .val (.int (if ¬ ((x0 &&& (1 : Int32)) = (0 : Int32)) then (1 : Int32) else (0 : Int32))), .val (.int (if ¬ ((x0 &&& (2 : Int32)) = (0 : Int32)) then (1 : Int32) else (0 : Int32))), .val (.int (if ¬ ((x0 &&& (4 : Int32)) = (0 : Int32)) then (1 : Int32) else (0 : Int32))), .unset, .unset, .unset, .unset, .unset, .unset, .unset, .unset, .unset, .unset, .unset, .unset] [(.int (8 : Int32)), (.int x0)])) _
    refine XS.iand X0.here hx rfl (hb hby at_42) rfl ?_
    show Steps p.tables e below (s₁.setTop (mkF m 43 #[.val (.int x0), .val (.int x1), .val (.int x2), .val (.long x3), .second, .val (.int x4), .val (.int x5), .val (.int (if ¬ ((x0 &&& (1 : Int32)) = (0 : Int32)) then (1 : Int32) else (0 : Int32))), .val (.int (if ¬ ((x0 &&& (2 : Int32)) = (0 : Int32)) then (1 : Int32) else (0 : Int32))), .val (.int (if ¬ ((x0 &&& (4 : Int32)) = (0 : Int32)) then (1 : Int32) else (0 : Int32))), .unset, .unset, .unset, .unset, .unset, .unset, .unset, .unset, .unset, .unset, .unset, .unset] [(.int (x0 &&& (8 : Int32)))])) _
    by_cases hc7 : (x0 &&& (8 : Int32)) = (0 : Int32)
    · skip
      refine XS.ifYes X0.here hx rfl (pc0 := 43) (pc' := 50) rfl (hb hby at_43) rfl ((if0 _ _).trans (teq hc7).1) (by decide) (by decide) ?_
      show Steps p.tables e below (s₁.setTop (mkF m 50 #[.val (.int x0), .val (.int x1), .val (.int x2), .val (.long x3), .second, .val (.int x4), .val (.int x5), .val (.int (if ¬ ((x0 &&& (1 : Int32)) = (0 : Int32)) then (1 : Int32) else (0 : Int32))), .val (.int (if ¬ ((x0 &&& (2 : Int32)) = (0 : Int32)) then (1 : Int32) else (0 : Int32))), .val (.int (if ¬ ((x0 &&& (4 : Int32)) = (0 : Int32)) then (1 : Int32) else (0 : Int32))), .unset, .unset, .unset, .unset, .unset, .unset, .unset, .unset, .unset, .unset, .unset, .unset] [])) _
      refine XS.iconst X0.here hx rfl (hb hby at_50) ?_
      exact castTop (congrArg (fun z_ => (mkF m 51 #[.val (.int x0), .val (.int x1), .val (.int x2), .val (.long x3), .second, .val (.int x4), .val (.int x5), .val (.int (if ¬ ((x0 &&& (1 : Int32)) = (0 : Int32)) then (1 : Int32) else (0 : Int32))), .val (.int (if ¬ ((x0 &&& (2 : Int32)) = (0 : Int32)) then (1 : Int32) else (0 : Int32))), .val (.int (if ¬ ((x0 &&& (4 : Int32)) = (0 : Int32)) then (1 : Int32) else (0 : Int32))), .unset, .unset, .unset, .unset, .unset, .unset, .unset, .unset, .unset, .unset, .unset, .unset] [(.int z_)])) (show (0 : Int32) = (if ¬ ((x0 &&& (8 : Int32)) = (0 : Int32)) then (1 : Int32) else (0 : Int32)) from by rw [if_neg (not_not_intro hc7)])) k
    · skip
      refine XS.ifNo X0.here hx rfl (hb hby at_43) rfl ((if0 _ _).trans (feq hc7).1) ?_
      show Steps p.tables e below (s₁.setTop (mkF m 46 #[.val (.int x0), .val (.int x1), .val (.int x2), .val (.long x3), .second, .val (.int x4), .val (.int x5), .val (.int (if ¬ ((x0 &&& (1 : Int32)) = (0 : Int32)) then (1 : Int32) else (0 : Int32))), .val (.int (if ¬ ((x0 &&& (2 : Int32)) = (0 : Int32)) then (1 : Int32) else (0 : Int32))), .val (.int (if ¬ ((x0 &&& (4 : Int32)) = (0 : Int32)) then (1 : Int32) else (0 : Int32))), .unset, .unset, .unset, .unset, .unset, .unset, .unset, .unset, .unset, .unset, .unset, .unset] [])) _
      refine XS.iconst X0.here hx rfl (hb hby at_46) ?_
      show Steps p.tables e below (s₁.setTop (mkF m 47 #[.val (.int x0), .val (.int x1), .val (.int x2), .val (.long x3), .second, .val (.int x4), .val (.int x5), .val (.int (if ¬ ((x0 &&& (1 : Int32)) = (0 : Int32)) then (1 : Int32) else (0 : Int32))), .val (.int (if ¬ ((x0 &&& (2 : Int32)) = (0 : Int32)) then (1 : Int32) else (0 : Int32))), .val (.int (if ¬ ((x0 &&& (4 : Int32)) = (0 : Int32)) then (1 : Int32) else (0 : Int32))), .unset, .unset, .unset, .unset, .unset, .unset, .unset, .unset, .unset, .unset, .unset, .unset] [(.int (1 : Int32))])) _
      refine XS.goto X0.here hx rfl (pc0 := 47) (pc' := 51) rfl (hb hby at_47) (by decide) (by decide) ?_
      exact castTop (congrArg (fun z_ => (mkF m 51 #[.val (.int x0), .val (.int x1), .val (.int x2), .val (.long x3), .second, .val (.int x4), .val (.int x5), .val (.int (if ¬ ((x0 &&& (1 : Int32)) = (0 : Int32)) then (1 : Int32) else (0 : Int32))), .val (.int (if ¬ ((x0 &&& (2 : Int32)) = (0 : Int32)) then (1 : Int32) else (0 : Int32))), .val (.int (if ¬ ((x0 &&& (4 : Int32)) = (0 : Int32)) then (1 : Int32) else (0 : Int32))), .unset, .unset, .unset, .unset, .unset, .unset, .unset, .unset, .unset, .unset, .unset, .unset] [(.int z_)])) (show (1 : Int32) = (if ¬ ((x0 &&& (8 : Int32)) = (0 : Int32)) then (1 : Int32) else (0 : Int32)) from by rw [if_pos hc7])) k)
  have pre10 : ∀ t, Steps p.tables e below (s₁.setTop (mkF m 65 #[.val (.int x0), .val (.int x1), .val (.int x2), .val (.long x3), .second, .val (.int x4), .val (.int x5), .val (.int (if ¬ ((x0 &&& (1 : Int32)) = (0 : Int32)) then (1 : Int32) else (0 : Int32))), .val (.int (if ¬ ((x0 &&& (2 : Int32)) = (0 : Int32)) then (1 : Int32) else (0 : Int32))), .val (.int (if ¬ ((x0 &&& (4 : Int32)) = (0 : Int32)) then (1 : Int32) else (0 : Int32))), .val (.int (if ¬ ((x0 &&& (8 : Int32)) = (0 : Int32)) then (1 : Int32) else (0 : Int32))), .unset, .unset, .unset, .unset, .unset, .unset, .unset, .unset, .unset, .unset, .unset] [(.int (if ¬ ((x0 &&& (16 : Int32)) = (0 : Int32)) then (1 : Int32) else (0 : Int32)))])) t → Steps p.tables e below (s₁.setTop (entryFrame m #[(.int x0), (.int x1), (.int x2), (.long x3), (.int x4), (.int x5)] maxLocals)) t := fun t k => pre8 t (by
    show Steps p.tables e below (s₁.setTop (mkF m 51 #[.val (.int x0), .val (.int x1), .val (.int x2), .val (.long x3), .second, .val (.int x4), .val (.int x5), .val (.int (if ¬ ((x0 &&& (1 : Int32)) = (0 : Int32)) then (1 : Int32) else (0 : Int32))), .val (.int (if ¬ ((x0 &&& (2 : Int32)) = (0 : Int32)) then (1 : Int32) else (0 : Int32))), .val (.int (if ¬ ((x0 &&& (4 : Int32)) = (0 : Int32)) then (1 : Int32) else (0 : Int32))), .unset, .unset, .unset, .unset, .unset, .unset, .unset, .unset, .unset, .unset, .unset, .unset] [(.int (if ¬ ((x0 &&& (8 : Int32)) = (0 : Int32)) then (1 : Int32) else (0 : Int32)))])) _
    refine XS.istore X0.here hx rfl (hb hby at_51) rfl (l' := #[.val (.int x0), .val (.int x1), .val (.int x2), .val (.long x3), .second, .val (.int x4), .val (.int x5), .val (.int (if ¬ ((x0 &&& (1 : Int32)) = (0 : Int32)) then (1 : Int32) else (0 : Int32))), .val (.int (if ¬ ((x0 &&& (2 : Int32)) = (0 : Int32)) then (1 : Int32) else (0 : Int32))), .val (.int (if ¬ ((x0 &&& (4 : Int32)) = (0 : Int32)) then (1 : Int32) else (0 : Int32))), .val (.int (if ¬ ((x0 &&& (8 : Int32)) = (0 : Int32)) then (1 : Int32) else (0 : Int32))), .unset, .unset, .unset, .unset, .unset, .unset, .unset, .unset, .unset, .unset, .unset]) rfl ?_
    show Steps p.tables e below (s₁.setTop (mkF m 53 #[.val (.int x0), .val (.int x1), .val (.int x2), .val (.long x3), .second, .val (.int x4), .val (.int x5), .val (.int (if ¬ ((x0 &&& (1 : Int32)) = (0 : Int32)) then (1 : Int32) else (0 : Int32))), .val (.int (if ¬ ((x0 &&& (2 : Int32)) = (0 : Int32)) then (1 : Int32) else (0 : Int32))), .val (.int (if ¬ ((x0 &&& (4 : Int32)) = (0 : Int32)) then (1 : Int32) else (0 : Int32))), .val (.int (if ¬ ((x0 &&& (8 : Int32)) = (0 : Int32)) then (1 : Int32) else (0 : Int32))), .unset, .unset, .unset, .unset, .unset, .unset, .unset, .unset, .unset, .unset, .unset] [])) _
    refine XS.iloadN X0.here hx rfl (hb hby at_53) rfl ?_
    show Steps p.tables e below (s₁.setTop (mkF m 54 #[.val (.int x0), .val (.int x1), .val (.int x2), .val (.long x3), .second, .val (.int x4), .val (.int x5), .val (.int (if ¬ ((x0 &&& (1 : Int32)) = (0 : Int32)) then (1 : Int32) else (0 : Int32))), .val (.int (if ¬ ((x0 &&& (2 : Int32)) = (0 : Int32)) then (1 : Int32) else (0 : Int32))), .val (.int (if ¬ ((x0 &&& (4 : Int32)) = (0 : Int32)) then (1 : Int32) else (0 : Int32))), .val (.int (if ¬ ((x0 &&& (8 : Int32)) = (0 : Int32)) then (1 : Int32) else (0 : Int32))), .unset, .unset, .unset, .unset, .unset, .unset, .unset, .unset, .unset, .unset, .unset] [(.int x0)])) _
    refine XS.bipush X0.here hx rfl (hb hby at_54) ?_
    show Steps p.tables e below (s₁.setTop (mkF m 56 #[.val (.int x0), .val (.int x1), .val (.int x2), .val (.long x3), .second, .val (.int x4), .val (.int x5), .val (.int (if ¬ ((x0 &&& (1 : Int32)) = (0 : Int32)) then (1 : Int32) else (0 : Int32))), .val (.int (if ¬ ((x0 &&& (2 : Int32)) = (0 : Int32)) then (1 : Int32) else (0 : Int32))), .val (.int (if ¬ ((x0 &&& (4 : Int32)) = (0 : Int32)) then (1 : Int32) else (0 : Int32))), .val (.int (if ¬ ((x0 &&& (8 : Int32)) = (0 : Int32)) then (1 : Int32) else (0 : Int32))), .unset, .unset, .unset, .unset, .unset, .unset, .unset, .unset, .unset, .unset, .unset] [(.int (16 : Int32)), (.int x0)])) _
    refine XS.iand X0.here hx rfl (hb hby at_56) rfl ?_
    show Steps p.tables e below (s₁.setTop (mkF m 57 #[.val (.int x0), .val (.int x1), .val (.int x2), .val (.long x3), .second, .val (.int x4), .val (.int x5), .val (.int (if ¬ ((x0 &&& (1 : Int32)) = (0 : Int32)) then (1 : Int32) else (0 : Int32))), .val (.int (if ¬ ((x0 &&& (2 : Int32)) = (0 : Int32)) then (1 : Int32) else (0 : Int32))), .val (.int (if ¬ ((x0 &&& (4 : Int32)) = (0 : Int32)) then (1 : Int32) else (0 : Int32))), .val (.int (if ¬ ((x0 &&& (8 : Int32)) = (0 : Int32)) then (1 : Int32) else (0 : Int32))), .unset, .unset, .unset, .unset, .unset, .unset, .unset, .unset, .unset, .unset, .unset] [(.int (x0 &&& (16 : Int32)))])) _
    by_cases hc9 : (x0 &&& (16 : Int32)) = (0 : Int32)
    · skip
      refine XS.ifYes X0.here hx rfl (pc0 := 57) (pc' := 64) rfl (hb hby at_57) rfl ((if0 _ _).trans (teq hc9).1) (by decide) (by decide) ?_
      show Steps p.tables e below (s₁.setTop (mkF m 64 #[.val (.int x0), .val (.int x1), .val (.int x2), .val (.long x3), .second, .val (.int x4), .val (.int x5), .val (.int (if ¬ ((x0 &&& (1 : Int32)) = (0 : Int32)) then (1 : Int32) else (0 : Int32))), .val (.int (if ¬ ((x0 &&& (2 : Int32)) = (0 : Int32)) then (1 : Int32) else (0 : Int32))), .val (.int (if ¬ ((x0 &&& (4 : Int32)) = (0 : Int32)) then (1 : Int32) else (0 : Int32))), .val (.int (if ¬ ((x0 &&& (8 : Int32)) = (0 : Int32)) then (1 : Int32) else (0 : Int32))), .unset, .unset, .unset, .unset, .unset, .unset, .unset, .unset, .unset, .unset, .unset] [])) _
      refine XS.iconst X0.here hx rfl (hb hby at_64) ?_
      exact castTop (congrArg (fun z_ => (mkF m 65 #[.val (.int x0), .val (.int x1), .val (.int x2), .val (.long x3), .second, .val (.int x4), .val (.int x5), .val (.int (if ¬ ((x0 &&& (1 : Int32)) = (0 : Int32)) then (1 : Int32) else (0 : Int32))), .val (.int (if ¬ ((x0 &&& (2 : Int32)) = (0 : Int32)) then (1 : Int32) else (0 : Int32))), .val (.int (if ¬ ((x0 &&& (4 : Int32)) = (0 : Int32)) then (1 : Int32) else (0 : Int32))), .val (.int (if ¬ ((x0 &&& (8 : Int32)) = (0 : Int32)) then (1 : Int32) else (0 : Int32))), .unset, .unset, .unset, .unset, .unset, .unset, .unset, .unset, .unset, .unset, .unset] [(.int z_)])) (show (0 : Int32) = (if ¬ ((x0 &&& (16 : Int32)) = (0 : Int32)) then (1 : Int32) else (0 : Int32)) from by rw [if_neg (not_not_intro hc9)])) k
    · skip
      refine XS.ifNo X0.here hx rfl (hb hby at_57) rfl ((if0 _ _).trans (feq hc9).1) ?_
      show Steps p.tables e below (s₁.setTop (mkF m 60 #[.val (.int x0), .val (.int x1), .val (.int x2), .val (.long x3), .second, .val (.int x4), .val (.int x5), .val (.int (if ¬ ((x0 &&& (1 : Int32)) = (0 : Int32)) then (1 : Int32) else (0 : Int32))), .val (.int (if ¬ ((x0 &&& (2 : Int32)) = (0 : Int32)) then (1 : Int32) else (0 : Int32))), .val (.int (if ¬ ((x0 &&& (4 : Int32)) = (0 : Int32)) then (1 : Int32) else (0 : Int32))), .val (.int (if ¬ ((x0 &&& (8 : Int32)) = (0 : Int32)) then (1 : Int32) else (0 : Int32))), .unset, .unset, .unset, .unset, .unset, .unset, .unset, .unset, .unset, .unset, .unset] [])) _
      refine XS.iconst X0.here hx rfl (hb hby at_60) ?_
      show Steps p.tables e below (s₁.setTop (mkF m 61 #[.val (.int x0), .val (.int x1), .val (.int x2), .val (.long x3), .second, .val (.int x4), .val (.int x5), .val (.int (if ¬ ((x0 &&& (1 : Int32)) = (0 : Int32)) then (1 : Int32) else (0 : Int32))), .val (.int (if ¬ ((x0 &&& (2 : Int32)) = (0 : Int32)) then (1 : Int32) else (0 : Int32))), .val (.int (if ¬ ((x0 &&& (4 : Int32)) = (0 : Int32)) then (1 : Int32) else (0 : Int32))), .val (.int (if ¬ ((x0 &&& (8 : Int32)) = (0 : Int32)) then (1 : Int32) else (0 : Int32))), .unset, .unset, .unset, .unset, .unset, .unset, .unset, .unset, .unset, .unset, .unset] [(.int (1 : Int32))])) _
      refine XS.goto X0.here hx rfl (pc0 := 61) (pc' := 65) rfl (hb hby at_61) (by decide) (by decide) ?_
      exact castTop (congrArg (fun z_ => (mkF m 65 #[.val (.int x0), .val (.int x1), .val (.int x2), .val (.long x3), .second, .val (.int x4), .val (.int x5), .val (.int (if ¬ ((x0 &&& (1 : Int32)) = (0 : Int32)) then (1 : Int32) else (0 : Int32))), .val (.int (if ¬ ((x0 &&& (2 : Int32)) = (0 : Int32)) then (1 : Int32) else (0 : Int32))), .val (.int (if ¬ ((x0 &&& (4 : Int32)) = (0 : Int32)) then (1 : Int32) else (0 : Int32))), .val (.int (if ¬ ((x0 &&& (8 : Int32)) = (0 : Int32)) then (1 : Int32) else (0 : Int32))), .unset, .unset, .unset, .unset, .unset, .unset, .unset, .unset, .unset, .unset, .unset] [(.int z_)])) (show (1 : Int32) = (if ¬ ((x0 &&& (16 : Int32)) = (0 : Int32)) then (1 : Int32) else (0 : Int32)) from by rw [if_pos hc9])) k)
  obtain ⟨f0, hf0⟩ : ∃ z, z = (if ¬ ((x0 &&& (1 : Int32)) = (0 : Int32)) then (1 : Int32) else (0 : Int32)) := ⟨_, rfl⟩
  obtain ⟨f1, hf1⟩ : ∃ z, z = (if ¬ ((x0 &&& (2 : Int32)) = (0 : Int32)) then (1 : Int32) else (0 : Int32)) := ⟨_, rfl⟩
  obtain ⟨f2, hf2⟩ : ∃ z, z = (if ¬ ((x0 &&& (4 : Int32)) = (0 : Int32)) then (1 : Int32) else (0 : Int32)) := ⟨_, rfl⟩
  obtain ⟨f3, hf3⟩ : ∃ z, z = (if ¬ ((x0 &&& (8 : Int32)) = (0 : Int32)) then (1 : Int32) else (0 : Int32)) := ⟨_, rfl⟩
  obtain ⟨f4, hf4⟩ : ∃ z, z = (if ¬ ((x0 &&& (16 : Int32)) = (0 : Int32)) then (1 : Int32) else (0 : Int32)) := ⟨_, rfl⟩
  have pre11 : ∀ t, Steps p.tables e below (s₁.setTop (mkF m 67 #[.val (.int x0), .val (.int x1), .val (.int x2), .val (.long x3), .second, .val (.int x4), .val (.int x5), .val (.int f0), .val (.int f1), .val (.int f2), .val (.int f3), .val (.int f4), .unset, .unset, .unset, .unset, .unset, .unset, .unset, .unset, .unset, .unset] [])) t → Steps p.tables e below (s₁.setTop (entryFrame m #[(.int x0), (.int x1), (.int x2), (.long x3), (.int x4), (.int x5)] maxLocals)) t := fun t k => pre10 t (by
    show Steps p.tables e below (s₁.setTop (mkF m 65 #[.val (.int x0), .val (.int x1), .val (.int x2), .val (.long x3), .second, .val (.int x4), .val (.int x5), .val (.int (if ¬ ((x0 &&& (1 : Int32)) = (0 : Int32)) then (1 : Int32) else (0 : Int32))), .val (.int (if ¬ ((x0 &&& (2 : Int32)) = (0 : Int32)) then (1 : Int32) else (0 : Int32))), .val (.int (if ¬ ((x0 &&& (4 : Int32)) = (0 : Int32)) then (1 : Int32) else (0 : Int32))), .val (.int (if ¬ ((x0 &&& (8 : Int32)) = (0 : Int32)) then (1 : Int32) else (0 : Int32))), .unset, .unset, .unset, .unset, .unset, .unset, .unset, .unset, .unset, .unset, .unset] [(.int (if ¬ ((x0 &&& (16 : Int32)) = (0 : Int32)) then (1 : Int32) else (0 : Int32)))])) _
    refine XS.istore X0.here hx rfl (hb hby at_65) rfl (l' := #[.val (.int x0), .val (.int x1), .val (.int x2), .val (.long x3), .second, .val (.int x4), .val (.int x5), .val (.int (if ¬ ((x0 &&& (1 : Int32)) = (0 : Int32)) then (1 : Int32) else (0 : Int32))), .val (.int (if ¬ ((x0 &&& (2 : Int32)) = (0 : Int32)) then (1 : Int32) else (0 : Int32))), .val (.int (if ¬ ((x0 &&& (4 : Int32)) = (0 : Int32)) then (1 : Int32) else (0 : Int32))), .val (.int (if ¬ ((x0 &&& (8 : Int32)) = (0 : Int32)) then (1 : Int32) else (0 : Int32))), .val (.int (if ¬ ((x0 &&& (16 : Int32)) = (0 : Int32)) then (1 : Int32) else (0 : Int32))), .unset, .unset, .unset, .unset, .unset, .unset, .unset, .unset, .unset, .unset]) rfl ?_
    show Steps p.tables e below (s₁.setTop (mkF m 67 #[.val (.int x0), .val (.int x1), .val (.int x2), .val (.long x3), .second, .val (.int x4), .val (.int x5), .val (.int (if ¬ ((x0 &&& (1 : Int32)) = (0 : Int32)) then (1 : Int32) else (0 : Int32))), .val (.int (if ¬ ((x0 &&& (2 : Int32)) = (0 : Int32)) then (1 : Int32) else (0 : Int32))), .val (.int (if ¬ ((x0 &&& (4 : Int32)) = (0 : Int32)) then (1 : Int32) else (0 : Int32))), .val (.int (if ¬ ((x0 &&& (8 : Int32)) = (0 : Int32)) then (1 : Int32) else (0 : Int32))), .val (.int (if ¬ ((x0 &&& (16 : Int32)) = (0 : Int32)) then (1 : Int32) else (0 : Int32))), .unset, .unset, .unset, .unset, .unset, .unset, .unset, .unset, .unset, .unset] [])) _
    rw [← hf0]
    show Steps p.tables e below (s₁.setTop (mkF m 67 #[.val (.int x0), .val (.int x1), .val (.int x2), .val (.long x3), .second, .val (.int x4), .val (.int x5), .val (.int f0), .val (.int (if ¬ ((x0 &&& (2 : Int32)) = (0 : Int32)) then (1 : Int32) else (0 : Int32))), .val (.int (if ¬ ((x0 &&& (4 : Int32)) = (0 : Int32)) then (1 : Int32) else (0 : Int32))), .val (.int (if ¬ ((x0 &&& (8 : Int32)) = (0 : Int32)) then (1 : Int32) else (0 : Int32))), .val (.int (if ¬ ((x0 &&& (16 : Int32)) = (0 : Int32)) then (1 : Int32) else (0 : Int32))), .unset, .unset, .unset, .unset, .unset, .unset, .unset, .unset, .unset, .unset] [])) _
    rw [← hf1]
    show Steps p.tables e below (s₁.setTop (mkF m 67 #[.val (.int x0), .val (.int x1), .val (.int x2), .val (.long x3), .second, .val (.int x4), .val (.int x5), .val (.int f0), .val (.int f1), .val (.int (if ¬ ((x0 &&& (4 : Int32)) = (0 : Int32)) then (1 : Int32) else (0 : Int32))), .val (.int (if ¬ ((x0 &&& (8 : Int32)) = (0 : Int32)) then (1 : Int32) else (0 : Int32))), .val (.int (if ¬ ((x0 &&& (16 : Int32)) = (0 : Int32)) then (1 : Int32) else (0 : Int32))), .unset, .unset, .unset, .unset, .unset, .unset, .unset, .unset, .unset, .unset] [])) _
    rw [← hf2]
    show Steps p.tables e below (s₁.setTop (mkF m 67 #[.val (.int x0), .val (.int x1), .val (.int x2), .val (.long x3), .second, .val (.int x4), .val (.int x5), .val (.int f0), .val (.int f1), .val (.int f2), .val (.int (if ¬ ((x0 &&& (8 : Int32)) = (0 : Int32)) then (1 : Int32) else (0 : Int32))), .val (.int (if ¬ ((x0 &&& (16 : Int32)) = (0 : Int32)) then (1 : Int32) else (0 : Int32))), .unset, .unset, .unset, .unset, .unset, .unset, .unset, .unset, .unset, .unset] [])) _
    rw [← hf3]
    show Steps p.tables e below (s₁.setTop (mkF m 67 #[.val (.int x0), .val (.int x1), .val (.int x2), .val (.long x3), .second, .val (.int x4), .val (.int x5), .val (.int f0), .val (.int f1), .val (.int f2), .val (.int f3), .val (.int (if ¬ ((x0 &&& (16 : Int32)) = (0 : Int32)) then (1 : Int32) else (0 : Int32))), .unset, .unset, .unset, .unset, .unset, .unset, .unset, .unset, .unset, .unset] [])) _
    rw [← hf4]
    exact k)
  as_aux_lemma =>
    have pre13 : ∀ t, Steps p.tables e below (s₁.setTop (mkF m 73 #[.val (.int x0), .val (.int x1), .val (.int x2), .val (.long x3), .second, .val (.int x4), .val (.int x5), .val (.int f0), .val (.int f1), .val (.int f2), .val (.int f3), .val (.int f4), .val (.int (x4 &&& (3 : Int32))), .unset, .unset, .unset, .unset, .unset, .unset, .unset, .unset, .unset] [])) t → Steps p.tables e below (s₁.setTop (entryFrame m #[(.int x0), (.int x1), (.int x2), (.long x3), (.int x4), (.int x5)] maxLocals)) t := fun t k => pre11 t (by
      show Steps p.tables e below (s₁.setTop (mkF m 67 #[.val (.int x0), .val (.int x1), .val (.int x2), .val (.long x3), .second, .val (.int x4), .val (.int x5), .val (.int f0), .val (.int f1), .val (.int f2), .val (.int f3), .val (.int f4), .unset, .unset, .unset, .unset, .unset, .unset, .unset, .unset, .unset, .unset] [])) _
      refine XS.iload X0.here hx rfl (hb hby at_67) rfl ?_
      show Steps p.tables e below (s₁.setTop (mkF m 69 #[.val (.int x0), .val (.int x1), .val (.int x2), .val (.long x3), .second, .val (.int x4), .val (.int x5), .val (.int f0), .val (.int f1), .val (.int f2), .val (.int f3), .val (.int f4), .unset, .unset, .unset, .unset, .unset, .unset, .unset, .unset, .unset, .unset] [(.int x4)])) _
      refine XS.iconst X0.here hx rfl (hb hby at_69) ?_
      show Steps p.tables e below (s₁.setTop (mkF m 70 #[.val (.int x0), .val (.int x1), .val (.int x2), .val (.long x3), .second, .val (.int x4), .val (.int x5), .val (.int f0), .val (.int f1), .val (.int f2), .val (.int f3), .val (.int f4), .unset, .unset, .unset, .unset, .unset, .unset, .unset, .unset, .unset, .unset] [(.int (3 : Int32)), (.int x4)])) _
      refine XS.iand X0.here hx rfl (hb hby at_70) rfl ?_
      show Steps p.tables e below (s₁.setTop (mkF m 71 #[.val (.int x0), .val (.int x1), .val (.int x2), .val (.long x3), .second, .val (.int x4), .val (.int x5), .val (.int f0), .val (.int f1), .val (.int f2), .val (.int f3), .val (.int f4), .unset, .unset, .unset, .unset, .unset, .unset, .unset, .unset, .unset, .unset] [(.int (x4 &&& (3 : Int32)))])) _
      refine XS.istore X0.here hx rfl (hb hby at_71) rfl (l' := #[.val (.int x0), .val (.int x1), .val (.int x2), .val (.long x3), .second, .val (.int x4), .val (.int x5), .val (.int f0), .val (.int f1), .val (.int f2), .val (.int f3), .val (.int f4), .val (.int (x4 &&& (3 : Int32))), .unset, .unset, .unset, .unset, .unset, .unset, .unset, .unset, .unset]) rfl ?_
      exact k)
    obtain ⟨T12, h12, LL12, pp, kp, sz, PP, X12, e12, N12, Z12, Vp, hsz, hzp, hP0, hP1, hP2, hP3, pre12⟩ : ∃ (T12 : State) (h12 : Heap) (LL12 : List Loc) (pp : Addr) (kp : ClassId) (sz : Int32) (PP : List Int32), Stand p l e room_1 s m #[(.int x0), (.int x1), (.int x2), (.long x3), (.int x4), (.int x5)] below meth c T12 LL12 1 100 ∧ T12.heap = h12 ∧ Fr n0 LL12 ∧ n0 ≤ h12.size ∧ (Arv Z h12 pp kp .byte sz (List.map Value.int PP) (.int (0 : Int32))) ∧ (sz = 0 ∨ sz = 1 ∨ sz = 45 ∨ sz = 100) ∧ (sz.toInt = (PP.length : Int)) ∧ ((0 : Int32) < sz → PP.getD 0 0 = (x5.toInt8.toInt32)) ∧ ((1 : Int32) < sz → PP.getD (PP.length - 1) 0 = (((x5.toUInt32 >>> ((8 : Int32) &&& 31).toUInt32).toInt32).toInt8.toInt32)) ∧ ((2 : Int32) < sz → PP.getD (PP.length / 2) 0 = (((x5.toUInt32 >>> ((16 : Int32) &&& 31).toUInt32).toInt32).toInt8.toInt32)) ∧ ((3 : Int32) < sz → PP.getD 1 0 = 0) ∧ (∀ t, Steps p.tables e below (T12.setTop (mkF m 170 #[.val (.int x0), .val (.int x1), .val (.int x2), .val (.long x3), .second, .val (.int x4), .val (.int x5), .val (.int f0), .val (.int f1), .val (.int f2), .val (.int f3), .val (.int f4), .val (.int (x4 &&& (3 : Int32))), .val (.ref pp), .val (.int sz), .unset, .unset, .unset, .unset, .unset, .unset, .unset] [])) t → Steps p.tables e below (s₁.setTop (entryFrame m #[(.int x0), (.int x1), (.int x2), (.long x3), (.int x4), (.int x5)] maxLocals)) t) := by
      have pre14 : ∀ t, Steps p.tables e below (s₁.setTop (mkF m 75 #[.val (.int x0), .val (.int x1), .val (.int x2), .val (.long x3), .second, .val (.int x4), .val (.int x5), .val (.int f0), .val (.int f1), .val (.int f2), .val (.int f3), .val (.int f4), .val (.int (x4 &&& (3 : Int32))), .unset, .unset, .unset, .unset, .unset, .unset, .unset, .unset, .unset] [(.int (x4 &&& (3 : Int32)))])) t → Steps p.tables e below (s₁.setTop (entryFrame m #[(.int x0), (.int x1), (.int x2), (.long x3), (.int x4), (.int x5)] maxLocals)) t := fun t k => pre13 t (by
        show Steps p.tables e below (s₁.setTop (mkF m 73 #[.val (.int x0), .val (.int x1), .val (.int x2), .val (.long x3), .second, .val (.int x4), .val (.int x5), .val (.int f0), .val (.int f1), .val (.int f2), .val (.int f3), .val (.int f4), .val (.int (x4 &&& (3 : Int32))), .unset, .unset, .unset, .unset, .unset, .unset, .unset, .unset, .unset] [])) _
        refine XS.iload X0.here hx rfl (hb hby at_73) rfl ?_
        show Steps p.tables e below (s₁.setTop (mkF m 75 #[.val (.int x0), .val (.int x1), .val (.int x2), .val (.long x3), .second, .val (.int x4), .val (.int x5), .val (.int f0), .val (.int f1), .val (.int f2), .val (.int f3), .val (.int f4), .val (.int (x4 &&& (3 : Int32))), .unset, .unset, .unset, .unset, .unset, .unset, .unset, .unset, .unset] [(.int (x4 &&& (3 : Int32)))])) _
        exact k)
      by_cases hc15 : (x4 &&& (3 : Int32)) = (0 : Int32)
      · skip
        as_aux_lemma =>
          obtain ⟨T16, h16, k16, X16, e16, E16, A16, st16⟩ := newP X0 hx hZ (hw _ (List.mem_of_getElem? (i := 0) rfl)) e0 (g := (mkF m 79 #[.val (.int x0), .val (.int x1), .val (.int x2), .val (.long x3), .second, .val (.int x4), .val (.int x5), .val (.int f0), .val (.int f1), .val (.int f2), .val (.int f3), .val (.int f4), .val (.int (x4 &&& (3 : Int32))), .unset, .unset, .unset, .unset, .unset, .unset, .unset, .unset, .unset] [(.int (0 : Int32))])) rfl (hb hby at_79) rfl (by decide) (cap := 0) (by decide) (by decide) (by decide) (by decide)
          obtain ⟨b16, g16⟩ : ∃ z, z = h0.size := ⟨_, rfl⟩
          rw [← g16] at A16 st16
          have g_b16 : n0 ≤ b16 := Nat.le_trans Z0 (Nat.le_of_eq g16.symm)
          have Z17 : n0 ≤ h16.size := Nat.le_trans Z0 E16.1
          have V_b16 : Arv Z h16 b16 k16 .byte (0 : Int32) [] (.int (0 : Int32)) := (Arv.new A16 (by decide)).pad (pad_rep [] (.int (0 : Int32)) 0)
          have V_b16 : Arv Z h16 b16 k16 .byte (0 : Int32) (List.map Value.int (List.replicate 0 (0 : Int32))) (.int (0 : Int32)) := V_b16
          obtain ⟨cl18, Ar18, q18, S18, M18, H18, G18⟩ := id V_b16
          have hlen_ : (List.replicate 0 (0 : Int32)).length = 0 := by simp
          have pre19 : ∀ t, Steps p.tables e below (T16.setTop (mkF m 170 #[.val (.int x0), .val (.int x1), .val (.int x2), .val (.long x3), .second, .val (.int x4), .val (.int x5), .val (.int f0), .val (.int f1), .val (.int f2), .val (.int f3), .val (.int f4), .val (.int (x4 &&& (3 : Int32))), .val (.ref b16), .val (.int (0 : Int32)), .unset, .unset, .unset, .unset, .unset, .unset, .unset] [])) t → Steps p.tables e below (s₁.setTop (entryFrame m #[(.int x0), (.int x1), (.int x2), (.long x3), (.int x4), (.int x5)] maxLocals)) t := fun t k => pre14 t (by
            refine XS.ifNo X0.here hx rfl (hb hby at_75) rfl ((if0 _ _).trans (teq hc15).2) ?_
            show Steps p.tables e below (s₁.setTop (mkF m 78 #[.val (.int x0), .val (.int x1), .val (.int x2), .val (.long x3), .second, .val (.int x4), .val (.int x5), .val (.int f0), .val (.int f1), .val (.int f2), .val (.int f3), .val (.int f4), .val (.int (x4 &&& (3 : Int32))), .unset, .unset, .unset, .unset, .unset, .unset, .unset, .unset, .unset] [])) _
            refine XS.iconst X0.here hx rfl (hb hby at_78) ?_
            show Steps p.tables e below (s₁.setTop (mkF m 79 #[.val (.int x0), .val (.int x1), .val (.int x2), .val (.long x3), .second, .val (.int x4), .val (.int x5), .val (.int f0), .val (.int f1), .val (.int f2), .val (.int f3), .val (.int f4), .val (.int (x4 &&& (3 : Int32))), .unset, .unset, .unset, .unset, .unset, .unset, .unset, .unset, .unset] [(.int (0 : Int32))])) _
            refine st16 _ ?_
            show Steps p.tables e below (T16.setTop (mkF m 81 #[.val (.int x0), .val (.int x1), .val (.int x2), .val (.long x3), .second, .val (.int x4), .val (.int x5), .val (.int f0), .val (.int f1), .val (.int f2), .val (.int f3), .val (.int f4), .val (.int (x4 &&& (3 : Int32))), .unset, .unset, .unset, .unset, .unset, .unset, .unset, .unset, .unset] [(.ref b16)])) _
            refine XS.astore X16.here hx rfl (hb hby at_81) rfl rfl (l' := #[.val (.int x0), .val (.int x1), .val (.int x2), .val (.long x3), .second, .val (.int x4), .val (.int x5), .val (.int f0), .val (.int f1), .val (.int f2), .val (.int f3), .val (.int f4), .val (.int (x4 &&& (3 : Int32))), .val (.ref b16), .unset, .unset, .unset, .unset, .unset, .unset, .unset, .unset]) rfl ?_
            show Steps p.tables e below (T16.setTop (mkF m 83 #[.val (.int x0), .val (.int x1), .val (.int x2), .val (.long x3), .second, .val (.int x4), .val (.int x5), .val (.int f0), .val (.int f1), .val (.int f2), .val (.int f3), .val (.int f4), .val (.int (x4 &&& (3 : Int32))), .val (.ref b16), .unset, .unset, .unset, .unset, .unset, .unset, .unset, .unset] [])) _
            refine XS.goto X16.here hx rfl (pc0 := 83) (pc' := 121) rfl (hb hby at_83) (by decide) (by decide) ?_
            show Steps p.tables e below (T16.setTop (mkF m 121 #[.val (.int x0), .val (.int x1), .val (.int x2), .val (.long x3), .second, .val (.int x4), .val (.int x5), .val (.int f0), .val (.int f1), .val (.int f2), .val (.int f3), .val (.int f4), .val (.int (x4 &&& (3 : Int32))), .val (.ref b16), .unset, .unset, .unset, .unset, .unset, .unset, .unset, .unset] [])) _
            refine XS.aload X16.here hx rfl (hb hby at_121) rfl rfl ?_
            show Steps p.tables e below (T16.setTop (mkF m 123 #[.val (.int x0), .val (.int x1), .val (.int x2), .val (.long x3), .second, .val (.int x4), .val (.int x5), .val (.int f0), .val (.int f1), .val (.int f2), .val (.int f3), .val (.int f4), .val (.int (x4 &&& (3 : Int32))), .val (.ref b16), .unset, .unset, .unset, .unset, .unset, .unset, .unset, .unset] [(.ref b16)])) _
            refine X16.arraylength hx (by rw [e16]; exact Ar18.1) (State.isArrayOf_alike hZ.alike Ar18.2.1) (g := (mkF m 123 #[.val (.int x0), .val (.int x1), .val (.int x2), .val (.long x3), .second, .val (.int x4), .val (.int x5), .val (.int f0), .val (.int f1), .val (.int f2), .val (.int f3), .val (.int f4), .val (.int (x4 &&& (3 : Int32))), .val (.ref b16), .unset, .unset, .unset, .unset, .unset, .unset, .unset, .unset] [(.ref b16)])) rfl rfl (hb hby at_123) _ ?_
            rw [len_of S18 M18]
            show Steps p.tables e below (T16.setTop (mkF m 124 #[.val (.int x0), .val (.int x1), .val (.int x2), .val (.long x3), .second, .val (.int x4), .val (.int x5), .val (.int f0), .val (.int f1), .val (.int f2), .val (.int f3), .val (.int f4), .val (.int (x4 &&& (3 : Int32))), .val (.ref b16), .unset, .unset, .unset, .unset, .unset, .unset, .unset, .unset] [(.int (0 : Int32))])) _
            refine XS.istore X16.here hx rfl (hb hby at_124) rfl (l' := #[.val (.int x0), .val (.int x1), .val (.int x2), .val (.long x3), .second, .val (.int x4), .val (.int x5), .val (.int f0), .val (.int f1), .val (.int f2), .val (.int f3), .val (.int f4), .val (.int (x4 &&& (3 : Int32))), .val (.ref b16), .val (.int (0 : Int32)), .unset, .unset, .unset, .unset, .unset, .unset, .unset]) rfl ?_
            show Steps p.tables e below (T16.setTop (mkF m 126 #[.val (.int x0), .val (.int x1), .val (.int x2), .val (.long x3), .second, .val (.int x4), .val (.int x5), .val (.int f0), .val (.int f1), .val (.int f2), .val (.int f3), .val (.int f4), .val (.int (x4 &&& (3 : Int32))), .val (.ref b16), .val (.int (0 : Int32)), .unset, .unset, .unset, .unset, .unset, .unset, .unset] [])) _
            refine XS.iload X16.here hx rfl (hb hby at_126) rfl ?_
            show Steps p.tables e below (T16.setTop (mkF m 128 #[.val (.int x0), .val (.int x1), .val (.int x2), .val (.long x3), .second, .val (.int x4), .val (.int x5), .val (.int f0), .val (.int f1), .val (.int f2), .val (.int f3), .val (.int f4), .val (.int (x4 &&& (3 : Int32))), .val (.ref b16), .val (.int (0 : Int32)), .unset, .unset, .unset, .unset, .unset, .unset, .unset] [(.int (0 : Int32))])) _
            refine XS.ifYes X16.here hx rfl (pc0 := 128) (pc' := 170) rfl (hb hby at_128) rfl ((if0 _ _).trans (flt (by decide : ¬ ((0 : Int32) < (0 : Int32)))).2.2.2) (by decide) (by decide) ?_
            exact k)
          as_aux_lemma =>
            exact ⟨T16, h16, _, b16, k16, (0 : Int32), (List.replicate 0 (0 : Int32)), X16.more (by decide) (by decide), e16, N0, Z17, V_b16, Or.inl rfl, (by rw [hlen_]; rfl), (fun q_ => absurd q_ (by decide)), (fun q_ => absurd q_ (by decide)), (fun q_ => absurd q_ (by decide)), (fun q_ => absurd q_ (by decide)), fun t k => pre19 t k⟩
      · skip
        as_aux_lemma =>
          have pre20 : ∀ t, Steps p.tables e below (s₁.setTop (mkF m 89 #[.val (.int x0), .val (.int x1), .val (.int x2), .val (.long x3), .second, .val (.int x4), .val (.int x5), .val (.int f0), .val (.int f1), .val (.int f2), .val (.int f3), .val (.int f4), .val (.int (x4 &&& (3 : Int32))), .unset, .unset, .unset, .unset, .unset, .unset, .unset, .unset, .unset] [(.int (1 : Int32)), (.int (x4 &&& (3 : Int32)))])) t → Steps p.tables e below (s₁.setTop (entryFrame m #[(.int x0), (.int x1), (.int x2), (.long x3), (.int x4), (.int x5)] maxLocals)) t := fun t k => pre14 t (by
            refine XS.ifYes X0.here hx rfl (pc0 := 75) (pc' := 86) rfl (hb hby at_75) rfl ((if0 _ _).trans (feq hc15).2) (by decide) (by decide) ?_
            show Steps p.tables e below (s₁.setTop (mkF m 86 #[.val (.int x0), .val (.int x1), .val (.int x2), .val (.long x3), .second, .val (.int x4), .val (.int x5), .val (.int f0), .val (.int f1), .val (.int f2), .val (.int f3), .val (.int f4), .val (.int (x4 &&& (3 : Int32))), .unset, .unset, .unset, .unset, .unset, .unset, .unset, .unset, .unset] [])) _
            refine XS.iload X0.here hx rfl (hb hby at_86) rfl ?_
            show Steps p.tables e below (s₁.setTop (mkF m 88 #[.val (.int x0), .val (.int x1), .val (.int x2), .val (.long x3), .second, .val (.int x4), .val (.int x5), .val (.int f0), .val (.int f1), .val (.int f2), .val (.int f3), .val (.int f4), .val (.int (x4 &&& (3 : Int32))), .unset, .unset, .unset, .unset, .unset, .unset, .unset, .unset, .unset] [(.int (x4 &&& (3 : Int32)))])) _
            refine XS.iconst X0.here hx rfl (hb hby at_88) ?_
            show Steps p.tables e below (s₁.setTop (mkF m 89 #[.val (.int x0), .val (.int x1), .val (.int x2), .val (.long x3), .second, .val (.int x4), .val (.int x5), .val (.int f0), .val (.int f1), .val (.int f2), .val (.int f3), .val (.int f4), .val (.int (x4 &&& (3 : Int32))), .unset, .unset, .unset, .unset, .unset, .unset, .unset, .unset, .unset] [(.int (1 : Int32)), (.int (x4 &&& (3 : Int32)))])) _
            exact k)
          by_cases hc21 : (x4 &&& (3 : Int32)) = (1 : Int32)
          · skip
            as_aux_lemma =>
              obtain ⟨T22, h22, k22, X22, e22, E22, A22, st22⟩ := newP X0 hx hZ (hw _ (List.mem_of_getElem? (i := 0) rfl)) e0 (g := (mkF m 93 #[.val (.int x0), .val (.int x1), .val (.int x2), .val (.long x3), .second, .val (.int x4), .val (.int x5), .val (.int f0), .val (.int f1), .val (.int f2), .val (.int f3), .val (.int f4), .val (.int (x4 &&& (3 : Int32))), .unset, .unset, .unset, .unset, .unset, .unset, .unset, .unset, .unset] [(.int (1 : Int32))])) rfl (hb hby at_93) rfl (by decide) (cap := 1) (by decide) (by decide) (by decide) (by decide)
              obtain ⟨b22, g22⟩ : ∃ z, z = h0.size := ⟨_, rfl⟩
              rw [← g22] at A22 st22
              have g_b22 : n0 ≤ b22 := Nat.le_trans Z0 (Nat.le_of_eq g22.symm)
              have Z23 : n0 ≤ h22.size := Nat.le_trans Z0 E22.1
              have V_b22 : Arv Z h22 b22 k22 .byte (1 : Int32) [(.int (0 : Int32))] (.int (0 : Int32)) := (Arv.new A22 (by decide)).pad (pad_rep [] (.int (0 : Int32)) 1)
              have V_b22 : Arv Z h22 b22 k22 .byte (1 : Int32) (List.map Value.int (List.replicate 1 (0 : Int32))) (.int (0 : Int32)) := V_b22
              obtain ⟨cl24, Ar24, q24, S24, M24, H24, G24⟩ := id V_b22
              obtain ⟨cl25, Ar25, q25, S25, M25, H25, G25⟩ := id V_b22
              have hin25 : ¬ ((0 : Int32) < 0 ∨ cl25.slots.size ≤ ((0 : Int32)).toNatClampNeg) := inb_of S25 ⟨by decide, by decide⟩
              obtain ⟨T26, h26, X26, e26, W26, st26⟩ := stB X22 hx hZ e22 Ar25 (j := (0 : Int32)) hin25 (g := (mkF m 143 #[.val (.int x0), .val (.int x1), .val (.int x2), .val (.long x3), .second, .val (.int x4), .val (.int x5), .val (.int f0), .val (.int f1), .val (.int f2), .val (.int f3), .val (.int f4), .val (.int (x4 &&& (3 : Int32))), .val (.ref b22), .val (.int (1 : Int32)), .unset, .unset, .unset, .unset, .unset, .unset, .unset] [(.int (((x5.toUInt32 >>> ((8 : Int32) &&& 31).toUInt32).toInt32).toInt8.toInt32)), (.int (0 : Int32)), (.ref b22)])) rfl rfl (hb hby at_143)
              have Z27 : n0 ≤ h26.size := Nat.le_trans Z23 (Keep.of_wr W26).1
              have V_b22 : Arv Z h26 b22 k22 .byte (1 : Int32) (List.map Value.int ((List.replicate 1 (0 : Int32)).set 0 (((x5.toUInt32 >>> ((8 : Int32) &&& 31).toUInt32).toInt32).toInt8.toInt32))) (.int (0 : Int32)) := own_setP Ar25 q25 S25 M25 H25 G25 W26 (own_ni _) 0 rfl (by simp)
              have N26 := Fr.snoc X26 N0 g_b22
              obtain ⟨cl28, Ar28, q28, S28, M28, H28, G28⟩ := id V_b22
              have hin28 : ¬ ((0 : Int32) < 0 ∨ cl28.slots.size ≤ ((0 : Int32)).toNatClampNeg) := inb_of S28 ⟨by decide, by decide⟩
              obtain ⟨T29, h29, X29, e29, W29, st29⟩ := stB X26 hx hZ e26 Ar28 (j := (0 : Int32)) hin28 (g := (mkF m 169 #[.val (.int x0), .val (.int x1), .val (.int x2), .val (.long x3), .second, .val (.int x4), .val (.int x5), .val (.int f0), .val (.int f1), .val (.int f2), .val (.int f3), .val (.int f4), .val (.int (x4 &&& (3 : Int32))), .val (.ref b22), .val (.int (1 : Int32)), .unset, .unset, .unset, .unset, .unset, .unset, .unset] [(.int (x5.toInt8.toInt32)), (.int (0 : Int32)), (.ref b22)])) rfl rfl (hb hby at_169)
              have Z30 : n0 ≤ h29.size := Nat.le_trans Z27 (Keep.of_wr W29).1
              have V_b22 : Arv Z h29 b22 k22 .byte (1 : Int32) (List.map Value.int (((List.replicate 1 (0 : Int32)).set 0 (((x5.toUInt32 >>> ((8 : Int32) &&& 31).toUInt32).toInt32).toInt8.toInt32)).set 0 (x5.toInt8.toInt32))) (.int (0 : Int32)) := own_setP Ar28 q28 S28 M28 H28 G28 W29 (own_ni _) 0 rfl (by simp)
              have N29 := Fr.snoc X29 N26 g_b22
              have hlen_ : (((List.replicate 1 (0 : Int32)).set 0 (((x5.toUInt32 >>> ((8 : Int32) &&& 31).toUInt32).toInt32).toInt8.toInt32)).set 0 (x5.toInt8.toInt32)).length = 1 := by simp
              have pre31 : ∀ t, Steps p.tables e below (T29.setTop (mkF m 170 #[.val (.int x0), .val (.int x1), .val (.int x2), .val (.long x3), .second, .val (.int x4), .val (.int x5), .val (.int f0), .val (.int f1), .val (.int f2), .val (.int f3), .val (.int f4), .val (.int (x4 &&& (3 : Int32))), .val (.ref b22), .val (.int (1 : Int32)), .unset, .unset, .unset, .unset, .unset, .unset, .unset] [])) t → Steps p.tables e below (s₁.setTop (entryFrame m #[(.int x0), (.int x1), (.int x2), (.long x3), (.int x4), (.int x5)] maxLocals)) t := fun t k => pre20 t (by
                refine XS.icmpNo X0.here hx rfl (hb hby at_89) rfl (teq hc21).2 ?_
                show Steps p.tables e below (s₁.setTop (mkF m 92 #[.val (.int x0), .val (.int x1), .val (.int x2), .val (.long x3), .second, .val (.int x4), .val (.int x5), .val (.int f0), .val (.int f1), .val (.int f2), .val (.int f3), .val (.int f4), .val (.int (x4 &&& (3 : Int32))), .unset, .unset, .unset, .unset, .unset, .unset, .unset, .unset, .unset] [])) _
                refine XS.iconst X0.here hx rfl (hb hby at_92) ?_
                show Steps p.tables e below (s₁.setTop (mkF m 93 #[.val (.int x0), .val (.int x1), .val (.int x2), .val (.long x3), .second, .val (.int x4), .val (.int x5), .val (.int f0), .val (.int f1), .val (.int f2), .val (.int f3), .val (.int f4), .val (.int (x4 &&& (3 : Int32))), .unset, .unset, .unset, .unset, .unset, .unset, .unset, .unset, .unset] [(.int (1 : Int32))])) _
                refine st22 _ ?_
                show Steps p.tables e below (T22.setTop (mkF m 95 #[.val (.int x0), .val (.int x1), .val (.int x2), .val (.long x3), .second, .val (.int x4), .val (.int x5), .val (.int f0), .val (.int f1), .val (.int f2), .val (.int f3), .val (.int f4), .val (.int (x4 &&& (3 : Int32))), .unset, .unset, .unset, .unset, .unset, .unset, .unset, .unset, .unset] [(.ref b22)])) _
                refine XS.astore X22.here hx rfl (hb hby at_95) rfl rfl (l' := #[.val (.int x0), .val (.int x1), .val (.int x2), .val (.long x3), .second, .val (.int x4), .val (.int x5), .val (.int f0), .val (.int f1), .val (.int f2), .val (.int f3), .val (.int f4), .val (.int (x4 &&& (3 : Int32))), .val (.ref b22), .unset, .unset, .unset, .unset, .unset, .unset, .unset, .unset]) rfl ?_
                show Steps p.tables e below (T22.setTop (mkF m 97 #[.val (.int x0), .val (.int x1), .val (.int x2), .val (.long x3), .second, .val (.int x4), .val (.int x5), .val (.int f0), .val (.int f1), .val (.int f2), .val (.int f3), .val (.int f4), .val (.int (x4 &&& (3 : Int32))), .val (.ref b22), .unset, .unset, .unset, .unset, .unset, .unset, .unset, .unset] [])) _
                refine XS.goto X22.here hx rfl (pc0 := 97) (pc' := 121) rfl (hb hby at_97) (by decide) (by decide) ?_
                show Steps p.tables e below (T22.setTop (mkF m 121 #[.val (.int x0), .val (.int x1), .val (.int x2), .val (.long x3), .second, .val (.int x4), .val (.int x5), .val (.int f0), .val (.int f1), .val (.int f2), .val (.int f3), .val (.int f4), .val (.int (x4 &&& (3 : Int32))), .val (.ref b22), .unset, .unset, .unset, .unset, .unset, .unset, .unset, .unset] [])) _
                refine XS.aload X22.here hx rfl (hb hby at_121) rfl rfl ?_
                show Steps p.tables e below (T22.setTop (mkF m 123 #[.val (.int x0), .val (.int x1), .val (.int x2), .val (.long x3), .second, .val (.int x4), .val (.int x5), .val (.int f0), .val (.int f1), .val (.int f2), .val (.int f3), .val (.int f4), .val (.int (x4 &&& (3 : Int32))), .val (.ref b22), .unset, .unset, .unset, .unset, .unset, .unset, .unset, .unset] [(.ref b22)])) _
                refine X22.arraylength hx (by rw [e22]; exact Ar24.1) (State.isArrayOf_alike hZ.alike Ar24.2.1) (g := (mkF m 123 #[.val (.int x0), .val (.int x1), .val (.int x2), .val (.long x3), .second, .val (.int x4), .val (.int x5), .val (.int f0), .val (.int f1), .val (.int f2), .val (.int f3), .val (.int f4), .val (.int (x4 &&& (3 : Int32))), .val (.ref b22), .unset, .unset, .unset, .unset, .unset, .unset, .unset, .unset] [(.ref b22)])) rfl rfl (hb hby at_123) _ ?_
                rw [len_of S24 M24]
                show Steps p.tables e below (T22.setTop (mkF m 124 #[.val (.int x0), .val (.int x1), .val (.int x2), .val (.long x3), .second, .val (.int x4), .val (.int x5), .val (.int f0), .val (.int f1), .val (.int f2), .val (.int f3), .val (.int f4), .val (.int (x4 &&& (3 : Int32))), .val (.ref b22), .unset, .unset, .unset, .unset, .unset, .unset, .unset, .unset] [(.int (1 : Int32))])) _
                refine XS.istore X22.here hx rfl (hb hby at_124) rfl (l' := #[.val (.int x0), .val (.int x1), .val (.int x2), .val (.long x3), .second, .val (.int x4), .val (.int x5), .val (.int f0), .val (.int f1), .val (.int f2), .val (.int f3), .val (.int f4), .val (.int (x4 &&& (3 : Int32))), .val (.ref b22), .val (.int (1 : Int32)), .unset, .unset, .unset, .unset, .unset, .unset, .unset]) rfl ?_
                show Steps p.tables e below (T22.setTop (mkF m 126 #[.val (.int x0), .val (.int x1), .val (.int x2), .val (.long x3), .second, .val (.int x4), .val (.int x5), .val (.int f0), .val (.int f1), .val (.int f2), .val (.int f3), .val (.int f4), .val (.int (x4 &&& (3 : Int32))), .val (.ref b22), .val (.int (1 : Int32)), .unset, .unset, .unset, .unset, .unset, .unset, .unset] [])) _
                refine XS.iload X22.here hx rfl (hb hby at_126) rfl ?_
                show Steps p.tables e below (T22.setTop (mkF m 128 #[.val (.int x0), .val (.int x1), .val (.int x2), .val (.long x3), .second, .val (.int x4), .val (.int x5), .val (.int f0), .val (.int f1), .val (.int f2), .val (.int f3), .val (.int f4), .val (.int (x4 &&& (3 : Int32))), .val (.ref b22), .val (.int (1 : Int32)), .unset, .unset, .unset, .unset, .unset, .unset, .unset] [(.int (1 : Int32))])) _
                refine XS.ifNo X22.here hx rfl (hb hby at_128) rfl ((if0 _ _).trans (tlt (by decide : (0 : Int32) < (1 : Int32))).2.2.2) ?_
                show Steps p.tables e below (T22.setTop (mkF m 131 #[.val (.int x0), .val (.int x1), .val (.int x2), .val (.long x3), .second, .val (.int x4), .val (.int x5), .val (.int f0), .val (.int f1), .val (.int f2), .val (.int f3), .val (.int f4), .val (.int (x4 &&& (3 : Int32))), .val (.ref b22), .val (.int (1 : Int32)), .unset, .unset, .unset, .unset, .unset, .unset, .unset] [])) _
                refine XS.aload X22.here hx rfl (hb hby at_131) rfl rfl ?_
                show Steps p.tables e below (T22.setTop (mkF m 133 #[.val (.int x0), .val (.int x1), .val (.int x2), .val (.long x3), .second, .val (.int x4), .val (.int x5), .val (.int f0), .val (.int f1), .val (.int f2), .val (.int f3), .val (.int f4), .val (.int (x4 &&& (3 : Int32))), .val (.ref b22), .val (.int (1 : Int32)), .unset, .unset, .unset, .unset, .unset, .unset, .unset] [(.ref b22)])) _
                refine XS.iload X22.here hx rfl (hb hby at_133) rfl ?_
                show Steps p.tables e below (T22.setTop (mkF m 135 #[.val (.int x0), .val (.int x1), .val (.int x2), .val (.long x3), .second, .val (.int x4), .val (.int x5), .val (.int f0), .val (.int f1), .val (.int f2), .val (.int f3), .val (.int f4), .val (.int (x4 &&& (3 : Int32))), .val (.ref b22), .val (.int (1 : Int32)), .unset, .unset, .unset, .unset, .unset, .unset, .unset] [(.int (1 : Int32)), (.ref b22)])) _
                refine XS.iconst X22.here hx rfl (hb hby at_135) ?_
                show Steps p.tables e below (T22.setTop (mkF m 136 #[.val (.int x0), .val (.int x1), .val (.int x2), .val (.long x3), .second, .val (.int x4), .val (.int x5), .val (.int f0), .val (.int f1), .val (.int f2), .val (.int f3), .val (.int f4), .val (.int (x4 &&& (3 : Int32))), .val (.ref b22), .val (.int (1 : Int32)), .unset, .unset, .unset, .unset, .unset, .unset, .unset] [(.int (1 : Int32)), (.int (1 : Int32)), (.ref b22)])) _
                refine XS.isub X22.here hx rfl (hb hby at_136) rfl ?_
                show Steps p.tables e below (T22.setTop (mkF m 137 #[.val (.int x0), .val (.int x1), .val (.int x2), .val (.long x3), .second, .val (.int x4), .val (.int x5), .val (.int f0), .val (.int f1), .val (.int f2), .val (.int f3), .val (.int f4), .val (.int (x4 &&& (3 : Int32))), .val (.ref b22), .val (.int (1 : Int32)), .unset, .unset, .unset, .unset, .unset, .unset, .unset] [(.int (0 : Int32)), (.ref b22)])) _
                refine XS.iload X22.here hx rfl (hb hby at_137) rfl ?_
                show Steps p.tables e below (T22.setTop (mkF m 139 #[.val (.int x0), .val (.int x1), .val (.int x2), .val (.long x3), .second, .val (.int x4), .val (.int x5), .val (.int f0), .val (.int f1), .val (.int f2), .val (.int f3), .val (.int f4), .val (.int (x4 &&& (3 : Int32))), .val (.ref b22), .val (.int (1 : Int32)), .unset, .unset, .unset, .unset, .unset, .unset, .unset] [(.int x5), (.int (0 : Int32)), (.ref b22)])) _
                refine XS.bipush X22.here hx rfl (hb hby at_139) ?_
                show Steps p.tables e below (T22.setTop (mkF m 141 #[.val (.int x0), .val (.int x1), .val (.int x2), .val (.long x3), .second, .val (.int x4), .val (.int x5), .val (.int f0), .val (.int f1), .val (.int f2), .val (.int f3), .val (.int f4), .val (.int (x4 &&& (3 : Int32))), .val (.ref b22), .val (.int (1 : Int32)), .unset, .unset, .unset, .unset, .unset, .unset, .unset] [(.int (8 : Int32)), (.int x5), (.int (0 : Int32)), (.ref b22)])) _
                refine XS.iushr X22.here hx rfl (hb hby at_141) rfl ?_
                show Steps p.tables e below (T22.setTop (mkF m 142 #[.val (.int x0), .val (.int x1), .val (.int x2), .val (.long x3), .second, .val (.int x4), .val (.int x5), .val (.int f0), .val (.int f1), .val (.int f2), .val (.int f3), .val (.int f4), .val (.int (x4 &&& (3 : Int32))), .val (.ref b22), .val (.int (1 : Int32)), .unset, .unset, .unset, .unset, .unset, .unset, .unset] [(.int ((x5.toUInt32 >>> ((8 : Int32) &&& 31).toUInt32).toInt32)), (.int (0 : Int32)), (.ref b22)])) _
                refine XS.i2b X22.here hx rfl (hb hby at_142) rfl ?_
                show Steps p.tables e below (T22.setTop (mkF m 143 #[.val (.int x0), .val (.int x1), .val (.int x2), .val (.long x3), .second, .val (.int x4), .val (.int x5), .val (.int f0), .val (.int f1), .val (.int f2), .val (.int f3), .val (.int f4), .val (.int (x4 &&& (3 : Int32))), .val (.ref b22), .val (.int (1 : Int32)), .unset, .unset, .unset, .unset, .unset, .unset, .unset] [(.int (((x5.toUInt32 >>> ((8 : Int32) &&& 31).toUInt32).toInt32).toInt8.toInt32)), (.int (0 : Int32)), (.ref b22)])) _
                refine st26 _ ?_
                show Steps p.tables e below (T26.setTop (mkF m 144 #[.val (.int x0), .val (.int x1), .val (.int x2), .val (.long x3), .second, .val (.int x4), .val (.int x5), .val (.int f0), .val (.int f1), .val (.int f2), .val (.int f3), .val (.int f4), .val (.int (x4 &&& (3 : Int32))), .val (.ref b22), .val (.int (1 : Int32)), .unset, .unset, .unset, .unset, .unset, .unset, .unset] [])) _
                refine XS.iload X26.here hx rfl (hb hby at_144) rfl ?_
                show Steps p.tables e below (T26.setTop (mkF m 146 #[.val (.int x0), .val (.int x1), .val (.int x2), .val (.long x3), .second, .val (.int x4), .val (.int x5), .val (.int f0), .val (.int f1), .val (.int f2), .val (.int f3), .val (.int f4), .val (.int (x4 &&& (3 : Int32))), .val (.ref b22), .val (.int (1 : Int32)), .unset, .unset, .unset, .unset, .unset, .unset, .unset] [(.int (1 : Int32))])) _
                refine XS.iconst X26.here hx rfl (hb hby at_146) ?_
                show Steps p.tables e below (T26.setTop (mkF m 147 #[.val (.int x0), .val (.int x1), .val (.int x2), .val (.long x3), .second, .val (.int x4), .val (.int x5), .val (.int f0), .val (.int f1), .val (.int f2), .val (.int f3), .val (.int f4), .val (.int (x4 &&& (3 : Int32))), .val (.ref b22), .val (.int (1 : Int32)), .unset, .unset, .unset, .unset, .unset, .unset, .unset] [(.int (2 : Int32)), (.int (1 : Int32))])) _
                refine XS.icmpYes X26.here hx rfl (pc0 := 147) (pc' := 163) rfl (hb hby at_147) rfl (flt (by decide : ¬ ((2 : Int32) < (1 : Int32)))).2.2.2 (by decide) (by decide) ?_
                show Steps p.tables e below (T26.setTop (mkF m 163 #[.val (.int x0), .val (.int x1), .val (.int x2), .val (.long x3), .second, .val (.int x4), .val (.int x5), .val (.int f0), .val (.int f1), .val (.int f2), .val (.int f3), .val (.int f4), .val (.int (x4 &&& (3 : Int32))), .val (.ref b22), .val (.int (1 : Int32)), .unset, .unset, .unset, .unset, .unset, .unset, .unset] [])) _
                refine XS.aload X26.here hx rfl (hb hby at_163) rfl rfl ?_
                show Steps p.tables e below (T26.setTop (mkF m 165 #[.val (.int x0), .val (.int x1), .val (.int x2), .val (.long x3), .second, .val (.int x4), .val (.int x5), .val (.int f0), .val (.int f1), .val (.int f2), .val (.int f3), .val (.int f4), .val (.int (x4 &&& (3 : Int32))), .val (.ref b22), .val (.int (1 : Int32)), .unset, .unset, .unset, .unset, .unset, .unset, .unset] [(.ref b22)])) _
                refine XS.iconst X26.here hx rfl (hb hby at_165) ?_
                show Steps p.tables e below (T26.setTop (mkF m 166 #[.val (.int x0), .val (.int x1), .val (.int x2), .val (.long x3), .second, .val (.int x4), .val (.int x5), .val (.int f0), .val (.int f1), .val (.int f2), .val (.int f3), .val (.int f4), .val (.int (x4 &&& (3 : Int32))), .val (.ref b22), .val (.int (1 : Int32)), .unset, .unset, .unset, .unset, .unset, .unset, .unset] [(.int (0 : Int32)), (.ref b22)])) _
                refine XS.iload X26.here hx rfl (hb hby at_166) rfl ?_
                show Steps p.tables e below (T26.setTop (mkF m 168 #[.val (.int x0), .val (.int x1), .val (.int x2), .val (.long x3), .second, .val (.int x4), .val (.int x5), .val (.int f0), .val (.int f1), .val (.int f2), .val (.int f3), .val (.int f4), .val (.int (x4 &&& (3 : Int32))), .val (.ref b22), .val (.int (1 : Int32)), .unset, .unset, .unset, .unset, .unset, .unset, .unset] [(.int x5), (.int (0 : Int32)), (.ref b22)])) _
                refine XS.i2b X26.here hx rfl (hb hby at_168) rfl ?_
                show Steps p.tables e below (T26.setTop (mkF m 169 #[.val (.int x0), .val (.int x1), .val (.int x2), .val (.long x3), .second, .val (.int x4), .val (.int x5), .val (.int f0), .val (.int f1), .val (.int f2), .val (.int f3), .val (.int f4), .val (.int (x4 &&& (3 : Int32))), .val (.ref b22), .val (.int (1 : Int32)), .unset, .unset, .unset, .unset, .unset, .unset, .unset] [(.int (x5.toInt8.toInt32)), (.int (0 : Int32)), (.ref b22)])) _
                refine st29 _ ?_
                exact k)
              as_aux_lemma =>
                exact ⟨T29, h29, _, b22, k22, (1 : Int32), (((List.replicate 1 (0 : Int32)).set 0 (((x5.toUInt32 >>> ((8 : Int32) &&& 31).toUInt32).toInt32).toInt8.toInt32)).set 0 (x5.toInt8.toInt32)), X29.more (by decide) (by decide), e29, N29, Z30, V_b22, Or.inr (Or.inl rfl), (by rw [hlen_]; rfl), (fun _ => by simp), (fun q_ => absurd q_ (by decide)), (fun q_ => absurd q_ (by decide)), (fun q_ => absurd q_ (by decide)), fun t k => pre31 t k⟩
          · skip
            as_aux_lemma =>
              have pre32 : ∀ t, Steps p.tables e below (s₁.setTop (mkF m 103 #[.val (.int x0), .val (.int x1), .val (.int x2), .val (.long x3), .second, .val (.int x4), .val (.int x5), .val (.int f0), .val (.int f1), .val (.int f2), .val (.int f3), .val (.int f4), .val (.int (x4 &&& (3 : Int32))), .unset, .unset, .unset, .unset, .unset, .unset, .unset, .unset, .unset] [(.int (2 : Int32)), (.int (x4 &&& (3 : Int32)))])) t → Steps p.tables e below (s₁.setTop (entryFrame m #[(.int x0), (.int x1), (.int x2), (.long x3), (.int x4), (.int x5)] maxLocals)) t := fun t k => pre20 t (by
                refine XS.icmpYes X0.here hx rfl (pc0 := 89) (pc' := 100) rfl (hb hby at_89) rfl (feq hc21).2 (by decide) (by decide) ?_
                show Steps p.tables e below (s₁.setTop (mkF m 100 #[.val (.int x0), .val (.int x1), .val (.int x2), .val (.long x3), .second, .val (.int x4), .val (.int x5), .val (.int f0), .val (.int f1), .val (.int f2), .val (.int f3), .val (.int f4), .val (.int (x4 &&& (3 : Int32))), .unset, .unset, .unset, .unset, .unset, .unset, .unset, .unset, .unset] [])) _
                refine XS.iload X0.here hx rfl (hb hby at_100) rfl ?_
                show Steps p.tables e below (s₁.setTop (mkF m 102 #[.val (.int x0), .val (.int x1), .val (.int x2), .val (.long x3), .second, .val (.int x4), .val (.int x5), .val (.int f0), .val (.int f1), .val (.int f2), .val (.int f3), .val (.int f4), .val (.int (x4 &&& (3 : Int32))), .unset, .unset, .unset, .unset, .unset, .unset, .unset, .unset, .unset] [(.int (x4 &&& (3 : Int32)))])) _
                refine XS.iconst X0.here hx rfl (hb hby at_102) ?_
                show Steps p.tables e below (s₁.setTop (mkF m 103 #[.val (.int x0), .val (.int x1), .val (.int x2), .val (.long x3), .second, .val (.int x4), .val (.int x5), .val (.int f0), .val (.int f1), .val (.int f2), .val (.int f3), .val (.int f4), .val (.int (x4 &&& (3 : Int32))), .unset, .unset, .unset, .unset, .unset, .unset, .unset, .unset, .unset] [(.int (2 : Int32)), (.int (x4 &&& (3 : Int32)))])) _
                exact k)
              by_cases hc33 : (x4 &&& (3 : Int32)) = (2 : Int32)
              · skip
                as_aux_lemma =>
                  obtain ⟨T34, h34, k34, X34, e34, E34, A34, st34⟩ := newP X0 hx hZ (hw _ (List.mem_of_getElem? (i := 0) rfl)) e0 (g := (mkF m 108 #[.val (.int x0), .val (.int x1), .val (.int x2), .val (.long x3), .second, .val (.int x4), .val (.int x5), .val (.int f0), .val (.int f1), .val (.int f2), .val (.int f3), .val (.int f4), .val (.int (x4 &&& (3 : Int32))), .unset, .unset, .unset, .unset, .unset, .unset, .unset, .unset, .unset] [(.int (45 : Int32))])) rfl (hb hby at_108) rfl (by decide) (cap := 45) (by decide) (by decide) (by decide) (by decide)
                  obtain ⟨b34, g34⟩ : ∃ z, z = h0.size := ⟨_, rfl⟩
                  rw [← g34] at A34 st34
                  have g_b34 : n0 ≤ b34 := Nat.le_trans Z0 (Nat.le_of_eq g34.symm)
                  have Z35 : n0 ≤ h34.size := Nat.le_trans Z0 E34.1
                  have V_b34 := Arv.new A34 (by decide)
                  have V_b34 : Arv Z h34 b34 k34 .byte (45 : Int32) (List.map Value.int (List.replicate 45 (0 : Int32))) (.int (0 : Int32)) := by rw [List.map_replicate]; exact Arv.pad V_b34 (fun i => pad_rep [] _ 45 i)
                  obtain ⟨cl36, Ar36, q36, S36, M36, H36, G36⟩ := id V_b34
                  obtain ⟨cl37, Ar37, q37, S37, M37, H37, G37⟩ := id V_b34
                  have hin37 : ¬ ((44 : Int32) < 0 ∨ cl37.slots.size ≤ ((44 : Int32)).toNatClampNeg) := inb_of S37 ⟨by decide, by decide⟩
                  obtain ⟨T38, h38, X38, e38, W38, st38⟩ := stB X34 hx hZ e34 Ar37 (j := (44 : Int32)) hin37 (g := (mkF m 143 #[.val (.int x0), .val (.int x1), .val (.int x2), .val (.long x3), .second, .val (.int x4), .val (.int x5), .val (.int f0), .val (.int f1), .val (.int f2), .val (.int f3), .val (.int f4), .val (.int (x4 &&& (3 : Int32))), .val (.ref b34), .val (.int (45 : Int32)), .unset, .unset, .unset, .unset, .unset, .unset, .unset] [(.int (((x5.toUInt32 >>> ((8 : Int32) &&& 31).toUInt32).toInt32).toInt8.toInt32)), (.int (44 : Int32)), (.ref b34)])) rfl rfl (hb hby at_143)
                  have Z39 : n0 ≤ h38.size := Nat.le_trans Z35 (Keep.of_wr W38).1
                  have V_b34 : Arv Z h38 b34 k34 .byte (45 : Int32) (List.map Value.int ((List.replicate 45 (0 : Int32)).set 44 (((x5.toUInt32 >>> ((8 : Int32) &&& 31).toUInt32).toInt32).toInt8.toInt32))) (.int (0 : Int32)) := own_setP Ar37 q37 S37 M37 H37 G37 W38 (own_ni _) 44 rfl (by simp)
                  have N38 := Fr.snoc X38 N0 g_b34
                  obtain ⟨cl40, Ar40, q40, S40, M40, H40, G40⟩ := id V_b34
                  have hin40 : ¬ ((22 : Int32) < 0 ∨ cl40.slots.size ≤ ((22 : Int32)).toNatClampNeg) := inb_of S40 ⟨by decide, by decide⟩
                  obtain ⟨T41, h41, X41, e41, W41, st41⟩ := stB X38 hx hZ e38 Ar40 (j := (22 : Int32)) hin40 (g := (mkF m 162 #[.val (.int x0), .val (.int x1), .val (.int x2), .val (.long x3), .second, .val (.int x4), .val (.int x5), .val (.int f0), .val (.int f1), .val (.int f2), .val (.int f3), .val (.int f4), .val (.int (x4 &&& (3 : Int32))), .val (.ref b34), .val (.int (45 : Int32)), .unset, .unset, .unset, .unset, .unset, .unset, .unset] [(.int (((x5.toUInt32 >>> ((16 : Int32) &&& 31).toUInt32).toInt32).toInt8.toInt32)), (.int (22 : Int32)), (.ref b34)])) rfl rfl (hb hby at_162)
                  have Z42 : n0 ≤ h41.size := Nat.le_trans Z39 (Keep.of_wr W41).1
                  have V_b34 : Arv Z h41 b34 k34 .byte (45 : Int32) (List.map Value.int (((List.replicate 45 (0 : Int32)).set 44 (((x5.toUInt32 >>> ((8 : Int32) &&& 31).toUInt32).toInt32).toInt8.toInt32)).set 22 (((x5.toUInt32 >>> ((16 : Int32) &&& 31).toUInt32).toInt32).toInt8.toInt32))) (.int (0 : Int32)) := own_setP Ar40 q40 S40 M40 H40 G40 W41 (own_ni _) 22 rfl (by simp)
                  have N41 := Fr.snoc X41 N38 g_b34
                  obtain ⟨cl43, Ar43, q43, S43, M43, H43, G43⟩ := id V_b34
                  have hin43 : ¬ ((0 : Int32) < 0 ∨ cl43.slots.size ≤ ((0 : Int32)).toNatClampNeg) := inb_of S43 ⟨by decide, by decide⟩
                  obtain ⟨T44, h44, X44, e44, W44, st44⟩ := stB X41 hx hZ e41 Ar43 (j := (0 : Int32)) hin43 (g := (mkF m 169 #[.val (.int x0), .val (.int x1), .val (.int x2), .val (.long x3), .second, .val (.int x4), .val (.int x5), .val (.int f0), .val (.int f1), .val (.int f2), .val (.int f3), .val (.int f4), .val (.int (x4 &&& (3 : Int32))), .val (.ref b34), .val (.int (45 : Int32)), .unset, .unset, .unset, .unset, .unset, .unset, .unset] [(.int (x5.toInt8.toInt32)), (.int (0 : Int32)), (.ref b34)])) rfl rfl (hb hby at_169)
                  have Z45 : n0 ≤ h44.size := Nat.le_trans Z42 (Keep.of_wr W44).1
                  have V_b34 : Arv Z h44 b34 k34 .byte (45 : Int32) (List.map Value.int ((((List.replicate 45 (0 : Int32)).set 44 (((x5.toUInt32 >>> ((8 : Int32) &&& 31).toUInt32).toInt32).toInt8.toInt32)).set 22 (((x5.toUInt32 >>> ((16 : Int32) &&& 31).toUInt32).toInt32).toInt8.toInt32)).set 0 (x5.toInt8.toInt32))) (.int (0 : Int32)) := own_setP Ar43 q43 S43 M43 H43 G43 W44 (own_ni _) 0 rfl (by simp)
                  have N44 := Fr.snoc X44 N41 g_b34
                  have hlen_ : ((((List.replicate 45 (0 : Int32)).set 44 (((x5.toUInt32 >>> ((8 : Int32) &&& 31).toUInt32).toInt32).toInt8.toInt32)).set 22 (((x5.toUInt32 >>> ((16 : Int32) &&& 31).toUInt32).toInt32).toInt8.toInt32)).set 0 (x5.toInt8.toInt32)).length = 45 := by simp
                  have pre46 : ∀ t, Steps p.tables e below (T44.setTop (mkF m 170 #[.val (.int x0), .val (.int x1), .val (.int x2), .val (.long x3), .second, .val (.int x4), .val (.int x5), .val (.int f0), .val (.int f1), .val (.int f2), .val (.int f3), .val (.int f4), .val (.int (x4 &&& (3 : Int32))), .val (.ref b34), .val (.int (45 : Int32)), .unset, .unset, .unset, .unset, .unset, .unset, .unset] [])) t → Steps p.tables e below (s₁.setTop (entryFrame m #[(.int x0), (.int x1), (.int x2), (.long x3), (.int x4), (.int x5)] maxLocals)) t := fun t k => pre32 t (by
                    refine XS.icmpNo X0.here hx rfl (hb hby at_103) rfl (teq hc33).2 ?_
                    show Steps p.tables e below (s₁.setTop (mkF m 106 #[.val (.int x0), .val (.int x1), .val (.int x2), .val (.long x3), .second, .val (.int x4), .val (.int x5), .val (.int f0), .val (.int f1), .val (.int f2), .val (.int f3), .val (.int f4), .val (.int (x4 &&& (3 : Int32))), .unset, .unset, .unset, .unset, .unset, .unset, .unset, .unset, .unset] [])) _
                    refine XS.bipush X0.here hx rfl (hb hby at_106) ?_
                    show Steps p.tables e below (s₁.setTop (mkF m 108 #[.val (.int x0), .val (.int x1), .val (.int x2), .val (.long x3), .second, .val (.int x4), .val (.int x5), .val (.int f0), .val (.int f1), .val (.int f2), .val (.int f3), .val (.int f4), .val (.int (x4 &&& (3 : Int32))), .unset, .unset, .unset, .unset, .unset, .unset, .unset, .unset, .unset] [(.int (45 : Int32))])) _
                    refine st34 _ ?_
                    show Steps p.tables e below (T34.setTop (mkF m 110 #[.val (.int x0), .val (.int x1), .val (.int x2), .val (.long x3), .second, .val (.int x4), .val (.int x5), .val (.int f0), .val (.int f1), .val (.int f2), .val (.int f3), .val (.int f4), .val (.int (x4 &&& (3 : Int32))), .unset, .unset, .unset, .unset, .unset, .unset, .unset, .unset, .unset] [(.ref b34)])) _
                    refine XS.astore X34.here hx rfl (hb hby at_110) rfl rfl (l' := #[.val (.int x0), .val (.int x1), .val (.int x2), .val (.long x3), .second, .val (.int x4), .val (.int x5), .val (.int f0), .val (.int f1), .val (.int f2), .val (.int f3), .val (.int f4), .val (.int (x4 &&& (3 : Int32))), .val (.ref b34), .unset, .unset, .unset, .unset, .unset, .unset, .unset, .unset]) rfl ?_
                    show Steps p.tables e below (T34.setTop (mkF m 112 #[.val (.int x0), .val (.int x1), .val (.int x2), .val (.long x3), .second, .val (.int x4), .val (.int x5), .val (.int f0), .val (.int f1), .val (.int f2), .val (.int f3), .val (.int f4), .val (.int (x4 &&& (3 : Int32))), .val (.ref b34), .unset, .unset, .unset, .unset, .unset, .unset, .unset, .unset] [])) _
                    refine XS.goto X34.here hx rfl (pc0 := 112) (pc' := 121) rfl (hb hby at_112) (by decide) (by decide) ?_
                    show Steps p.tables e below (T34.setTop (mkF m 121 #[.val (.int x0), .val (.int x1), .val (.int x2), .val (.long x3), .second, .val (.int x4), .val (.int x5), .val (.int f0), .val (.int f1), .val (.int f2), .val (.int f3), .val (.int f4), .val (.int (x4 &&& (3 : Int32))), .val (.ref b34), .unset, .unset, .unset, .unset, .unset, .unset, .unset, .unset] [])) _
                    refine XS.aload X34.here hx rfl (hb hby at_121) rfl rfl ?_
                    show Steps p.tables e below (T34.setTop (mkF m 123 #[.val (.int x0), .val (.int x1), .val (.int x2), .val (.long x3), .second, .val (.int x4), .val (.int x5), .val (.int f0), .val (.int f1), .val (.int f2), .val (.int f3), .val (.int f4), .val (.int (x4 &&& (3 : Int32))), .val (.ref b34), .unset, .unset, .unset, .unset, .unset, .unset, .unset, .unset] [(.ref b34)])) _
                    refine X34.arraylength hx (by rw [e34]; exact Ar36.1) (State.isArrayOf_alike hZ.alike Ar36.2.1) (g := (mkF m 123 #[.val (.int x0), .val (.int x1), .val (.int x2), .val (.long x3), .second, .val (.int x4), .val (.int x5), .val (.int f0), .val (.int f1), .val (.int f2), .val (.int f3), .val (.int f4), .val (.int (x4 &&& (3 : Int32))), .val (.ref b34), .unset, .unset, .unset, .unset, .unset, .unset, .unset, .unset] [(.ref b34)])) rfl rfl (hb hby at_123) _ ?_
                    rw [len_of S36 M36]
                    show Steps p.tables e below (T34.setTop (mkF m 124 #[.val (.int x0), .val (.int x1), .val (.int x2), .val (.long x3), .second, .val (.int x4), .val (.int x5), .val (.int f0), .val (.int f1), .val (.int f2), .val (.int f3), .val (.int f4), .val (.int (x4 &&& (3 : Int32))), .val (.ref b34), .unset, .unset, .unset, .unset, .unset, .unset, .unset, .unset] [(.int (45 : Int32))])) _
                    refine XS.istore X34.here hx rfl (hb hby at_124) rfl (l' := #[.val (.int x0), .val (.int x1), .val (.int x2), .val (.long x3), .second, .val (.int x4), .val (.int x5), .val (.int f0), .val (.int f1), .val (.int f2), .val (.int f3), .val (.int f4), .val (.int (x4 &&& (3 : Int32))), .val (.ref b34), .val (.int (45 : Int32)), .unset, .unset, .unset, .unset, .unset, .unset, .unset]) rfl ?_
                    show Steps p.tables e below (T34.setTop (mkF m 126 #[.val (.int x0), .val (.int x1), .val (.int x2), .val (.long x3), .second, .val (.int x4), .val (.int x5), .val (.int f0), .val (.int f1), .val (.int f2), .val (.int f3), .val (.int f4), .val (.int (x4 &&& (3 : Int32))), .val (.ref b34), .val (.int (45 : Int32)), .unset, .unset, .unset, .unset, .unset, .unset, .unset] [])) _
                    refine XS.iload X34.here hx rfl (hb hby at_126) rfl ?_
                    show Steps p.tables e below (T34.setTop (mkF m 128 #[.val (.int x0), .val (.int x1), .val (.int x2), .val (.long x3), .second, .val (.int x4), .val (.int x5), .val (.int f0), .val (.int f1), .val (.int f2), .val (.int f3), .val (.int f4), .val (.int (x4 &&& (3 : Int32))), .val (.ref b34), .val (.int (45 : Int32)), .unset, .unset, .unset, .unset, .unset, .unset, .unset] [(.int (45 : Int32))])) _
                    refine XS.ifNo X34.here hx rfl (hb hby at_128) rfl ((if0 _ _).trans (tlt (by decide : (0 : Int32) < (45 : Int32))).2.2.2) ?_
                    show Steps p.tables e below (T34.setTop (mkF m 131 #[.val (.int x0), .val (.int x1), .val (.int x2), .val (.long x3), .second, .val (.int x4), .val (.int x5), .val (.int f0), .val (.int f1), .val (.int f2), .val (.int f3), .val (.int f4), .val (.int (x4 &&& (3 : Int32))), .val (.ref b34), .val (.int (45 : Int32)), .unset, .unset, .unset, .unset, .unset, .unset, .unset] [])) _
                    refine XS.aload X34.here hx rfl (hb hby at_131) rfl rfl ?_
                    show Steps p.tables e below (T34.setTop (mkF m 133 #[.val (.int x0), .val (.int x1), .val (.int x2), .val (.long x3), .second, .val (.int x4), .val (.int x5), .val (.int f0), .val (.int f1), .val (.int f2), .val (.int f3), .val (.int f4), .val (.int (x4 &&& (3 : Int32))), .val (.ref b34), .val (.int (45 : Int32)), .unset, .unset, .unset, .unset, .unset, .unset, .unset] [(.ref b34)])) _
                    refine XS.iload X34.here hx rfl (hb hby at_133) rfl ?_
                    show Steps p.tables e below (T34.setTop (mkF m 135 #[.val (.int x0), .val (.int x1), .val (.int x2), .val (.long x3), .second, .val (.int x4), .val (.int x5), .val (.int f0), .val (.int f1), .val (.int f2), .val (.int f3), .val (.int f4), .val (.int (x4 &&& (3 : Int32))), .val (.ref b34), .val (.int (45 : Int32)), .unset, .unset, .unset, .unset, .unset, .unset, .unset] [(.int (45 : Int32)), (.ref b34)])) _
                    refine XS.iconst X34.here hx rfl (hb hby at_135) ?_
                    show Steps p.tables e below (T34.setTop (mkF m 136 #[.val (.int x0), .val (.int x1), .val (.int x2), .val (.long x3), .second, .val (.int x4), .val (.int x5), .val (.int f0), .val (.int f1), .val (.int f2), .val (.int f3), .val (.int f4), .val (.int (x4 &&& (3 : Int32))), .val (.ref b34), .val (.int (45 : Int32)), .unset, .unset, .unset, .unset, .unset, .unset, .unset] [(.int (1 : Int32)), (.int (45 : Int32)), (.ref b34)])) _
                    refine XS.isub X34.here hx rfl (hb hby at_136) rfl ?_
                    show Steps p.tables e below (T34.setTop (mkF m 137 #[.val (.int x0), .val (.int x1), .val (.int x2), .val (.long x3), .second, .val (.int x4), .val (.int x5), .val (.int f0), .val (.int f1), .val (.int f2), .val (.int f3), .val (.int f4), .val (.int (x4 &&& (3 : Int32))), .val (.ref b34), .val (.int (45 : Int32)), .unset, .unset, .unset, .unset, .unset, .unset, .unset] [(.int (44 : Int32)), (.ref b34)])) _
                    refine XS.iload X34.here hx rfl (hb hby at_137) rfl ?_
                    show Steps p.tables e below (T34.setTop (mkF m 139 #[.val (.int x0), .val (.int x1), .val (.int x2), .val (.long x3), .second, .val (.int x4), .val (.int x5), .val (.int f0), .val (.int f1), .val (.int f2), .val (.int f3), .val (.int f4), .val (.int (x4 &&& (3 : Int32))), .val (.ref b34), .val (.int (45 : Int32)), .unset, .unset, .unset, .unset, .unset, .unset, .unset] [(.int x5), (.int (44 : Int32)), (.ref b34)])) _
                    refine XS.bipush X34.here hx rfl (hb hby at_139) ?_
                    show Steps p.tables e below (T34.setTop (mkF m 141 #[.val (.int x0), .val (.int x1), .val (.int x2), .val (.long x3), .second, .val (.int x4), .val (.int x5), .val (.int f0), .val (.int f1), .val (.int f2), .val (.int f3), .val (.int f4), .val (.int (x4 &&& (3 : Int32))), .val (.ref b34), .val (.int (45 : Int32)), .unset, .unset, .unset, .unset, .unset, .unset, .unset] [(.int (8 : Int32)), (.int x5), (.int (44 : Int32)), (.ref b34)])) _
                    refine XS.iushr X34.here hx rfl (hb hby at_141) rfl ?_
                    show Steps p.tables e below (T34.setTop (mkF m 142 #[.val (.int x0), .val (.int x1), .val (.int x2), .val (.long x3), .second, .val (.int x4), .val (.int x5), .val (.int f0), .val (.int f1), .val (.int f2), .val (.int f3), .val (.int f4), .val (.int (x4 &&& (3 : Int32))), .val (.ref b34), .val (.int (45 : Int32)), .unset, .unset, .unset, .unset, .unset, .unset, .unset] [(.int ((x5.toUInt32 >>> ((8 : Int32) &&& 31).toUInt32).toInt32)), (.int (44 : Int32)), (.ref b34)])) _
                    refine XS.i2b X34.here hx rfl (hb hby at_142) rfl ?_
                    show Steps p.tables e below (T34.setTop (mkF m 143 #[.val (.int x0), .val (.int x1), .val (.int x2), .val (.long x3), .second, .val (.int x4), .val (.int x5), .val (.int f0), .val (.int f1), .val (.int f2), .val (.int f3), .val (.int f4), .val (.int (x4 &&& (3 : Int32))), .val (.ref b34), .val (.int (45 : Int32)), .unset, .unset, .unset, .unset, .unset, .unset, .unset] [(.int (((x5.toUInt32 >>> ((8 : Int32) &&& 31).toUInt32).toInt32).toInt8.toInt32)), (.int (44 : Int32)), (.ref b34)])) _
                    refine st38 _ ?_
                    show Steps p.tables e below (T38.setTop (mkF m 144 #[.val (.int x0), .val (.int x1), .val (.int x2), .val (.long x3), .second, .val (.int x4), .val (.int x5), .val (.int f0), .val (.int f1), .val (.int f2), .val (.int f3), .val (.int f4), .val (.int (x4 &&& (3 : Int32))), .val (.ref b34), .val (.int (45 : Int32)), .unset, .unset, .unset, .unset, .unset, .unset, .unset] [])) _
                    refine XS.iload X38.here hx rfl (hb hby at_144) rfl ?_
                    show Steps p.tables e below (T38.setTop (mkF m 146 #[.val (.int x0), .val (.int x1), .val (.int x2), .val (.long x3), .second, .val (.int x4), .val (.int x5), .val (.int f0), .val (.int f1), .val (.int f2), .val (.int f3), .val (.int f4), .val (.int (x4 &&& (3 : Int32))), .val (.ref b34), .val (.int (45 : Int32)), .unset, .unset, .unset, .unset, .unset, .unset, .unset] [(.int (45 : Int32))])) _
                    refine XS.iconst X38.here hx rfl (hb hby at_146) ?_
                    show Steps p.tables e below (T38.setTop (mkF m 147 #[.val (.int x0), .val (.int x1), .val (.int x2), .val (.long x3), .second, .val (.int x4), .val (.int x5), .val (.int f0), .val (.int f1), .val (.int f2), .val (.int f3), .val (.int f4), .val (.int (x4 &&& (3 : Int32))), .val (.ref b34), .val (.int (45 : Int32)), .unset, .unset, .unset, .unset, .unset, .unset, .unset] [(.int (2 : Int32)), (.int (45 : Int32))])) _
                    refine XS.icmpNo X38.here hx rfl (hb hby at_147) rfl (tlt (by decide : (2 : Int32) < (45 : Int32))).2.2.2 ?_
                    show Steps p.tables e below (T38.setTop (mkF m 150 #[.val (.int x0), .val (.int x1), .val (.int x2), .val (.long x3), .second, .val (.int x4), .val (.int x5), .val (.int f0), .val (.int f1), .val (.int f2), .val (.int f3), .val (.int f4), .val (.int (x4 &&& (3 : Int32))), .val (.ref b34), .val (.int (45 : Int32)), .unset, .unset, .unset, .unset, .unset, .unset, .unset] [])) _
                    refine XS.aload X38.here hx rfl (hb hby at_150) rfl rfl ?_
                    show Steps p.tables e below (T38.setTop (mkF m 152 #[.val (.int x0), .val (.int x1), .val (.int x2), .val (.long x3), .second, .val (.int x4), .val (.int x5), .val (.int f0), .val (.int f1), .val (.int f2), .val (.int f3), .val (.int f4), .val (.int (x4 &&& (3 : Int32))), .val (.ref b34), .val (.int (45 : Int32)), .unset, .unset, .unset, .unset, .unset, .unset, .unset] [(.ref b34)])) _
                    refine XS.iload X38.here hx rfl (hb hby at_152) rfl ?_
                    show Steps p.tables e below (T38.setTop (mkF m 154 #[.val (.int x0), .val (.int x1), .val (.int x2), .val (.long x3), .second, .val (.int x4), .val (.int x5), .val (.int f0), .val (.int f1), .val (.int f2), .val (.int f3), .val (.int f4), .val (.int (x4 &&& (3 : Int32))), .val (.ref b34), .val (.int (45 : Int32)), .unset, .unset, .unset, .unset, .unset, .unset, .unset] [(.int (45 : Int32)), (.ref b34)])) _
                    refine XS.iconst X38.here hx rfl (hb hby at_154) ?_
                    show Steps p.tables e below (T38.setTop (mkF m 155 #[.val (.int x0), .val (.int x1), .val (.int x2), .val (.long x3), .second, .val (.int x4), .val (.int x5), .val (.int f0), .val (.int f1), .val (.int f2), .val (.int f3), .val (.int f4), .val (.int (x4 &&& (3 : Int32))), .val (.ref b34), .val (.int (45 : Int32)), .unset, .unset, .unset, .unset, .unset, .unset, .unset] [(.int (2 : Int32)), (.int (45 : Int32)), (.ref b34)])) _
                    refine XS.idiv X38.here hx rfl (hb hby at_155) rfl (by decide) ?_
                    show Steps p.tables e below (T38.setTop (mkF m 156 #[.val (.int x0), .val (.int x1), .val (.int x2), .val (.long x3), .second, .val (.int x4), .val (.int x5), .val (.int f0), .val (.int f1), .val (.int f2), .val (.int f3), .val (.int f4), .val (.int (x4 &&& (3 : Int32))), .val (.ref b34), .val (.int (45 : Int32)), .unset, .unset, .unset, .unset, .unset, .unset, .unset] [(.int ((45 : Int32) / (2 : Int32))), (.ref b34)])) _
                    rw [(show ((45 : Int32) / (2 : Int32)) = (22 : Int32) from by decide)]
                    show Steps p.tables e below (T38.setTop (mkF m 156 #[.val (.int x0), .val (.int x1), .val (.int x2), .val (.long x3), .second, .val (.int x4), .val (.int x5), .val (.int f0), .val (.int f1), .val (.int f2), .val (.int f3), .val (.int f4), .val (.int (x4 &&& (3 : Int32))), .val (.ref b34), .val (.int (45 : Int32)), .unset, .unset, .unset, .unset, .unset, .unset, .unset] [(.int (22 : Int32)), (.ref b34)])) _
                    refine XS.iload X38.here hx rfl (hb hby at_156) rfl ?_
                    show Steps p.tables e below (T38.setTop (mkF m 158 #[.val (.int x0), .val (.int x1), .val (.int x2), .val (.long x3), .second, .val (.int x4), .val (.int x5), .val (.int f0), .val (.int f1), .val (.int f2), .val (.int f3), .val (.int f4), .val (.int (x4 &&& (3 : Int32))), .val (.ref b34), .val (.int (45 : Int32)), .unset, .unset, .unset, .unset, .unset, .unset, .unset] [(.int x5), (.int (22 : Int32)), (.ref b34)])) _
                    refine XS.bipush X38.here hx rfl (hb hby at_158) ?_
                    show Steps p.tables e below (T38.setTop (mkF m 160 #[.val (.int x0), .val (.int x1), .val (.int x2), .val (.long x3), .second, .val (.int x4), .val (.int x5), .val (.int f0), .val (.int f1), .val (.int f2), .val (.int f3), .val (.int f4), .val (.int (x4 &&& (3 : Int32))), .val (.ref b34), .val (.int (45 : Int32)), .unset, .unset, .unset, .unset, .unset, .unset, .unset] [(.int (16 : Int32)), (.int x5), (.int (22 : Int32)), (.ref b34)])) _
                    refine XS.iushr X38.here hx rfl (hb hby at_160) rfl ?_
                    show Steps p.tables e below (T38.setTop (mkF m 161 #[.val (.int x0), .val (.int x1), .val (.int x2), .val (.long x3), .second, .val (.int x4), .val (.int x5), .val (.int f0), .val (.int f1), .val (.int f2), .val (.int f3), .val (.int f4), .val (.int (x4 &&& (3 : Int32))), .val (.ref b34), .val (.int (45 : Int32)), .unset, .unset, .unset, .unset, .unset, .unset, .unset] [(.int ((x5.toUInt32 >>> ((16 : Int32) &&& 31).toUInt32).toInt32)), (.int (22 : Int32)), (.ref b34)])) _
                    refine XS.i2b X38.here hx rfl (hb hby at_161) rfl ?_
                    show Steps p.tables e below (T38.setTop (mkF m 162 #[.val (.int x0), .val (.int x1), .val (.int x2), .val (.long x3), .second, .val (.int x4), .val (.int x5), .val (.int f0), .val (.int f1), .val (.int f2), .val (.int f3), .val (.int f4), .val (.int (x4 &&& (3 : Int32))), .val (.ref b34), .val (.int (45 : Int32)), .unset, .unset, .unset, .unset, .unset, .unset, .unset] [(.int (((x5.toUInt32 >>> ((16 : Int32) &&& 31).toUInt32).toInt32).toInt8.toInt32)), (.int (22 : Int32)), (.ref b34)])) _
                    refine st41 _ ?_
                    show Steps p.tables e below (T41.setTop (mkF m 163 #[.val (.int x0), .val (.int x1), .val (.int x2), .val (.long x3), .second, .val (.int x4), .val (.int x5), .val (.int f0), .val (.int f1), .val (.int f2), .val (.int f3), .val (.int f4), .val (.int (x4 &&& (3 : Int32))), .val (.ref b34), .val (.int (45 : Int32)), .unset, .unset, .unset, .unset, .unset, .unset, .unset] [])) _
                    refine XS.aload X41.here hx rfl (hb hby at_163) rfl rfl ?_
                    show Steps p.tables e below (T41.setTop (mkF m 165 #[.val (.int x0), .val (.int x1), .val (.int x2), .val (.long x3), .second, .val (.int x4), .val (.int x5), .val (.int f0), .val (.int f1), .val (.int f2), .val (.int f3), .val (.int f4), .val (.int (x4 &&& (3 : Int32))), .val (.ref b34), .val (.int (45 : Int32)), .unset, .unset, .unset, .unset, .unset, .unset, .unset] [(.ref b34)])) _
                    refine XS.iconst X41.here hx rfl (hb hby at_165) ?_
                    show Steps p.tables e below (T41.setTop (mkF m 166 #[.val (.int x0), .val (.int x1), .val (.int x2), .val (.long x3), .second, .val (.int x4), .val (.int x5), .val (.int f0), .val (.int f1), .val (.int f2), .val (.int f3), .val (.int f4), .val (.int (x4 &&& (3 : Int32))), .val (.ref b34), .val (.int (45 : Int32)), .unset, .unset, .unset, .unset, .unset, .unset, .unset] [(.int (0 : Int32)), (.ref b34)])) _
                    refine XS.iload X41.here hx rfl (hb hby at_166) rfl ?_
                    show Steps p.tables e below (T41.setTop (mkF m 168 #[.val (.int x0), .val (.int x1), .val (.int x2), .val (.long x3), .second, .val (.int x4), .val (.int x5), .val (.int f0), .val (.int f1), .val (.int f2), .val (.int f3), .val (.int f4), .val (.int (x4 &&& (3 : Int32))), .val (.ref b34), .val (.int (45 : Int32)), .unset, .unset, .unset, .unset, .unset, .unset, .unset] [(.int x5), (.int (0 : Int32)), (.ref b34)])) _
                    refine XS.i2b X41.here hx rfl (hb hby at_168) rfl ?_
                    show Steps p.tables e below (T41.setTop (mkF m 169 #[.val (.int x0), .val (.int x1), .val (.int x2), .val (.long x3), .second, .val (.int x4), .val (.int x5), .val (.int f0), .val (.int f1), .val (.int f2), .val (.int f3), .val (.int f4), .val (.int (x4 &&& (3 : Int32))), .val (.ref b34), .val (.int (45 : Int32)), .unset, .unset, .unset, .unset, .unset, .unset, .unset] [(.int (x5.toInt8.toInt32)), (.int (0 : Int32)), (.ref b34)])) _
                    refine st44 _ ?_
                    exact k)
                  as_aux_lemma =>
                    exact ⟨T44, h44, _, b34, k34, (45 : Int32), ((((List.replicate 45 (0 : Int32)).set 44 (((x5.toUInt32 >>> ((8 : Int32) &&& 31).toUInt32).toInt32).toInt8.toInt32)).set 22 (((x5.toUInt32 >>> ((16 : Int32) &&& 31).toUInt32).toInt32).toInt8.toInt32)).set 0 (x5.toInt8.toInt32)), X44.more (by decide) (by decide), e44, N44, Z45, V_b34, Or.inr (Or.inr (Or.inl rfl)), (by rw [hlen_]; rfl), (fun _ => by simp), (fun _ => by rw [hlen_]; exact show ((((List.replicate 45 (0 : Int32)).set 44 (((x5.toUInt32 >>> ((8 : Int32) &&& 31).toUInt32).toInt32).toInt8.toInt32)).set 22 (((x5.toUInt32 >>> ((16 : Int32) &&& 31).toUInt32).toInt32).toInt8.toInt32)).set 0 (x5.toInt8.toInt32)).getD 44 0 = _ from by simp), (fun _ => by rw [hlen_]; exact show ((((List.replicate 45 (0 : Int32)).set 44 (((x5.toUInt32 >>> ((8 : Int32) &&& 31).toUInt32).toInt32).toInt8.toInt32)).set 22 (((x5.toUInt32 >>> ((16 : Int32) &&& 31).toUInt32).toInt32).toInt8.toInt32)).set 0 (x5.toInt8.toInt32)).getD 22 0 = _ from by simp), (fun _ => by simp), fun t k => pre46 t k⟩
              · skip
                as_aux_lemma =>
                  obtain ⟨T47, h47, k47, X47, e47, E47, A47, st47⟩ := newP X0 hx hZ (hw _ (List.mem_of_getElem? (i := 0) rfl)) e0 (g := (mkF m 117 #[.val (.int x0), .val (.int x1), .val (.int x2), .val (.long x3), .second, .val (.int x4), .val (.int x5), .val (.int f0), .val (.int f1), .val (.int f2), .val (.int f3), .val (.int f4), .val (.int (x4 &&& (3 : Int32))), .unset, .unset, .unset, .unset, .unset, .unset, .unset, .unset, .unset] [(.int (100 : Int32))])) rfl (hb hby at_117) rfl (by decide) (cap := 100) (by decide) (by decide) (by decide) (by decide)
                  obtain ⟨b47, g47⟩ : ∃ z, z = h0.size := ⟨_, rfl⟩
                  rw [← g47] at A47 st47
                  have g_b47 : n0 ≤ b47 := Nat.le_trans Z0 (Nat.le_of_eq g47.symm)
                  have Z48 : n0 ≤ h47.size := Nat.le_trans Z0 E47.1
                  have V_b47 := Arv.new A47 (by decide)
                  have V_b47 : Arv Z h47 b47 k47 .byte (100 : Int32) (List.map Value.int (List.replicate 100 (0 : Int32))) (.int (0 : Int32)) := by rw [List.map_replicate]; exact Arv.pad V_b47 (fun i => pad_rep [] _ 100 i)
                  obtain ⟨cl49, Ar49, q49, S49, M49, H49, G49⟩ := id V_b47
                  obtain ⟨cl50, Ar50, q50, S50, M50, H50, G50⟩ := id V_b47
                  have hin50 : ¬ ((99 : Int32) < 0 ∨ cl50.slots.size ≤ ((99 : Int32)).toNatClampNeg) := inb_of S50 ⟨by decide, by decide⟩
                  obtain ⟨T51, h51, X51, e51, W51, st51⟩ := stB X47 hx hZ e47 Ar50 (j := (99 : Int32)) hin50 (g := (mkF m 143 #[.val (.int x0), .val (.int x1), .val (.int x2), .val (.long x3), .second, .val (.int x4), .val (.int x5), .val (.int f0), .val (.int f1), .val (.int f2), .val (.int f3), .val (.int f4), .val (.int (x4 &&& (3 : Int32))), .val (.ref b47), .val (.int (100 : Int32)), .unset, .unset, .unset, .unset, .unset, .unset, .unset] [(.int (((x5.toUInt32 >>> ((8 : Int32) &&& 31).toUInt32).toInt32).toInt8.toInt32)), (.int (99 : Int32)), (.ref b47)])) rfl rfl (hb hby at_143)
                  have Z52 : n0 ≤ h51.size := Nat.le_trans Z48 (Keep.of_wr W51).1
                  have V_b47 : Arv Z h51 b47 k47 .byte (100 : Int32) (List.map Value.int ((List.replicate 100 (0 : Int32)).set 99 (((x5.toUInt32 >>> ((8 : Int32) &&& 31).toUInt32).toInt32).toInt8.toInt32))) (.int (0 : Int32)) := own_setP Ar50 q50 S50 M50 H50 G50 W51 (own_ni _) 99 rfl (by simp)
                  have N51 := Fr.snoc X51 N0 g_b47
                  obtain ⟨cl53, Ar53, q53, S53, M53, H53, G53⟩ := id V_b47
                  have hin53 : ¬ ((50 : Int32) < 0 ∨ cl53.slots.size ≤ ((50 : Int32)).toNatClampNeg) := inb_of S53 ⟨by decide, by decide⟩
                  obtain ⟨T54, h54, X54, e54, W54, st54⟩ := stB X51 hx hZ e51 Ar53 (j := (50 : Int32)) hin53 (g := (mkF m 162 #[.val (.int x0), .val (.int x1), .val (.int x2), .val (.long x3), .second, .val (.int x4), .val (.int x5), .val (.int f0), .val (.int f1), .val (.int f2), .val (.int f3), .val (.int f4), .val (.int (x4 &&& (3 : Int32))), .val (.ref b47), .val (.int (100 : Int32)), .unset, .unset, .unset, .unset, .unset, .unset, .unset] [(.int (((x5.toUInt32 >>> ((16 : Int32) &&& 31).toUInt32).toInt32).toInt8.toInt32)), (.int (50 : Int32)), (.ref b47)])) rfl rfl (hb hby at_162)
                  have Z55 : n0 ≤ h54.size := Nat.le_trans Z52 (Keep.of_wr W54).1
                  have V_b47 : Arv Z h54 b47 k47 .byte (100 : Int32) (List.map Value.int (((List.replicate 100 (0 : Int32)).set 99 (((x5.toUInt32 >>> ((8 : Int32) &&& 31).toUInt32).toInt32).toInt8.toInt32)).set 50 (((x5.toUInt32 >>> ((16 : Int32) &&& 31).toUInt32).toInt32).toInt8.toInt32))) (.int (0 : Int32)) := own_setP Ar53 q53 S53 M53 H53 G53 W54 (own_ni _) 50 rfl (by simp)
                  have N54 := Fr.snoc X54 N51 g_b47
                  obtain ⟨cl56, Ar56, q56, S56, M56, H56, G56⟩ := id V_b47
                  have hin56 : ¬ ((0 : Int32) < 0 ∨ cl56.slots.size ≤ ((0 : Int32)).toNatClampNeg) := inb_of S56 ⟨by decide, by decide⟩
                  obtain ⟨T57, h57, X57, e57, W57, st57⟩ := stB X54 hx hZ e54 Ar56 (j := (0 : Int32)) hin56 (g := (mkF m 169 #[.val (.int x0), .val (.int x1), .val (.int x2), .val (.long x3), .second, .val (.int x4), .val (.int x5), .val (.int f0), .val (.int f1), .val (.int f2), .val (.int f3), .val (.int f4), .val (.int (x4 &&& (3 : Int32))), .val (.ref b47), .val (.int (100 : Int32)), .unset, .unset, .unset, .unset, .unset, .unset, .unset] [(.int (x5.toInt8.toInt32)), (.int (0 : Int32)), (.ref b47)])) rfl rfl (hb hby at_169)
                  have Z58 : n0 ≤ h57.size := Nat.le_trans Z55 (Keep.of_wr W57).1
                  have V_b47 : Arv Z h57 b47 k47 .byte (100 : Int32) (List.map Value.int ((((List.replicate 100 (0 : Int32)).set 99 (((x5.toUInt32 >>> ((8 : Int32) &&& 31).toUInt32).toInt32).toInt8.toInt32)).set 50 (((x5.toUInt32 >>> ((16 : Int32) &&& 31).toUInt32).toInt32).toInt8.toInt32)).set 0 (x5.toInt8.toInt32))) (.int (0 : Int32)) := own_setP Ar56 q56 S56 M56 H56 G56 W57 (own_ni _) 0 rfl (by simp)
                  have N57 := Fr.snoc X57 N54 g_b47
                  have hlen_ : ((((List.replicate 100 (0 : Int32)).set 99 (((x5.toUInt32 >>> ((8 : Int32) &&& 31).toUInt32).toInt32).toInt8.toInt32)).set 50 (((x5.toUInt32 >>> ((16 : Int32) &&& 31).toUInt32).toInt32).toInt8.toInt32)).set 0 (x5.toInt8.toInt32)).length = 100 := by simp
                  have pre59 : ∀ t, Steps p.tables e below (T57.setTop (mkF m 170 #[.val (.int x0), .val (.int x1), .val (.int x2), .val (.long x3), .second, .val (.int x4), .val (.int x5), .val (.int f0), .val (.int f1), .val (.int f2), .val (.int f3), .val (.int f4), .val (.int (x4 &&& (3 : Int32))), .val (.ref b47), .val (.int (100 : Int32)), .unset, .unset, .unset, .unset, .unset, .unset, .unset] [])) t → Steps p.tables e below (s₁.setTop (entryFrame m #[(.int x0), (.int x1), (.int x2), (.long x3), (.int x4), (.int x5)] maxLocals)) t := fun t k => pre32 t (by
                    refine XS.icmpYes X0.here hx rfl (pc0 := 103) (pc' := 115) rfl (hb hby at_103) rfl (feq hc33).2 (by decide) (by decide) ?_
                    show Steps p.tables e below (s₁.setTop (mkF m 115 #[.val (.int x0), .val (.int x1), .val (.int x2), .val (.long x3), .second, .val (.int x4), .val (.int x5), .val (.int f0), .val (.int f1), .val (.int f2), .val (.int f3), .val (.int f4), .val (.int (x4 &&& (3 : Int32))), .unset, .unset, .unset, .unset, .unset, .unset, .unset, .unset, .unset] [])) _
                    refine XS.bipush X0.here hx rfl (hb hby at_115) ?_
                    show Steps p.tables e below (s₁.setTop (mkF m 117 #[.val (.int x0), .val (.int x1), .val (.int x2), .val (.long x3), .second, .val (.int x4), .val (.int x5), .val (.int f0), .val (.int f1), .val (.int f2), .val (.int f3), .val (.int f4), .val (.int (x4 &&& (3 : Int32))), .unset, .unset, .unset, .unset, .unset, .unset, .unset, .unset, .unset] [(.int (100 : Int32))])) _
                    refine st47 _ ?_
                    show Steps p.tables e below (T47.setTop (mkF m 119 #[.val (.int x0), .val (.int x1), .val (.int x2), .val (.long x3), .second, .val (.int x4), .val (.int x5), .val (.int f0), .val (.int f1), .val (.int f2), .val (.int f3), .val (.int f4), .val (.int (x4 &&& (3 : Int32))), .unset, .unset, .unset, .unset, .unset, .unset, .unset, .unset, .unset] [(.ref b47)])) _
                    refine XS.astore X47.here hx rfl (hb hby at_119) rfl rfl (l' := #[.val (.int x0), .val (.int x1), .val (.int x2), .val (.long x3), .second, .val (.int x4), .val (.int x5), .val (.int f0), .val (.int f1), .val (.int f2), .val (.int f3), .val (.int f4), .val (.int (x4 &&& (3 : Int32))), .val (.ref b47), .unset, .unset, .unset, .unset, .unset, .unset, .unset, .unset]) rfl ?_
                    show Steps p.tables e below (T47.setTop (mkF m 121 #[.val (.int x0), .val (.int x1), .val (.int x2), .val (.long x3), .second, .val (.int x4), .val (.int x5), .val (.int f0), .val (.int f1), .val (.int f2), .val (.int f3), .val (.int f4), .val (.int (x4 &&& (3 : Int32))), .val (.ref b47), .unset, .unset, .unset, .unset, .unset, .unset, .unset, .unset] [])) _
                    refine XS.aload X47.here hx rfl (hb hby at_121) rfl rfl ?_
                    show Steps p.tables e below (T47.setTop (mkF m 123 #[.val (.int x0), .val (.int x1), .val (.int x2), .val (.long x3), .second, .val (.int x4), .val (.int x5), .val (.int f0), .val (.int f1), .val (.int f2), .val (.int f3), .val (.int f4), .val (.int (x4 &&& (3 : Int32))), .val (.ref b47), .unset, .unset, .unset, .unset, .unset, .unset, .unset, .unset] [(.ref b47)])) _
                    refine X47.arraylength hx (by rw [e47]; exact Ar49.1) (State.isArrayOf_alike hZ.alike Ar49.2.1) (g := (mkF m 123 #[.val (.int x0), .val (.int x1), .val (.int x2), .val (.long x3), .second, .val (.int x4), .val (.int x5), .val (.int f0), .val (.int f1), .val (.int f2), .val (.int f3), .val (.int f4), .val (.int (x4 &&& (3 : Int32))), .val (.ref b47), .unset, .unset, .unset, .unset, .unset, .unset, .unset, .unset] [(.ref b47)])) rfl rfl (hb hby at_123) _ ?_
                    rw [len_of S49 M49]
                    show Steps p.tables e below (T47.setTop (mkF m 124 #[.val (.int x0), .val (.int x1), .val (.int x2), .val (.long x3), .second, .val (.int x4), .val (.int x5), .val (.int f0), .val (.int f1), .val (.int f2), .val (.int f3), .val (.int f4), .val (.int (x4 &&& (3 : Int32))), .val (.ref b47), .unset, .unset, .unset, .unset, .unset, .unset, .unset, .unset] [(.int (100 : Int32))])) _
                    refine XS.istore X47.here hx rfl (hb hby at_124) rfl (l' := #[.val (.int x0), .val (.int x1), .val (.int x2), .val (.long x3), .second, .val (.int x4), .val (.int x5), .val (.int f0), .val (.int f1), .val (.int f2), .val (.int f3), .val (.int f4), .val (.int (x4 &&& (3 : Int32))), .val (.ref b47), .val (.int (100 : Int32)), .unset, .unset, .unset, .unset, .unset, .unset, .unset]) rfl ?_
                    show Steps p.tables e below (T47.setTop (mkF m 126 #[.val (.int x0), .val (.int x1), .val (.int x2), .val (.long x3), .second, .val (.int x4), .val (.int x5), .val (.int f0), .val (.int f1), .val (.int f2), .val (.int f3), .val (.int f4), .val (.int (x4 &&& (3 : Int32))), .val (.ref b47), .val (.int (100 : Int32)), .unset, .unset, .unset, .unset, .unset, .unset, .unset] [])) _
                    refine XS.iload X47.here hx rfl (hb hby at_126) rfl ?_
                    show Steps p.tables e below (T47.setTop (mkF m 128 #[.val (.int x0), .val (.int x1), .val (.int x2), .val (.long x3), .second, .val (.int x4), .val (.int x5), .val (.int f0), .val (.int f1), .val (.int f2), .val (.int f3), .val (.int f4), .val (.int (x4 &&& (3 : Int32))), .val (.ref b47), .val (.int (100 : Int32)), .unset, .unset, .unset, .unset, .unset, .unset, .unset] [(.int (100 : Int32))])) _
                    refine XS.ifNo X47.here hx rfl (hb hby at_128) rfl ((if0 _ _).trans (tlt (by decide : (0 : Int32) < (100 : Int32))).2.2.2) ?_
                    show Steps p.tables e below (T47.setTop (mkF m 131 #[.val (.int x0), .val (.int x1), .val (.int x2), .val (.long x3), .second, .val (.int x4), .val (.int x5), .val (.int f0), .val (.int f1), .val (.int f2), .val (.int f3), .val (.int f4), .val (.int (x4 &&& (3 : Int32))), .val (.ref b47), .val (.int (100 : Int32)), .unset, .unset, .unset, .unset, .unset, .unset, .unset] [])) _
                    refine XS.aload X47.here hx rfl (hb hby at_131) rfl rfl ?_
                    show Steps p.tables e below (T47.setTop (mkF m 133 #[.val (.int x0), .val (.int x1), .val (.int x2), .val (.long x3), .second, .val (.int x4), .val (.int x5), .val (.int f0), .val (.int f1), .val (.int f2), .val (.int f3), .val (.int f4), .val (.int (x4 &&& (3 : Int32))), .val (.ref b47), .val (.int (100 : Int32)), .unset, .unset, .unset, .unset, .unset, .unset, .unset] [(.ref b47)])) _
                    refine XS.iload X47.here hx rfl (hb hby at_133) rfl ?_
                    show Steps p.tables e below (T47.setTop (mkF m 135 #[.val (.int x0), .val (.int x1), .val (.int x2), .val (.long x3), .second, .val (.int x4), .val (.int x5), .val (.int f0), .val (.int f1), .val (.int f2), .val (.int f3), .val (.int f4), .val (.int (x4 &&& (3 : Int32))), .val (.ref b47), .val (.int (100 : Int32)), .unset, .unset, .unset, .unset, .unset, .unset, .unset] [(.int (100 : Int32)), (.ref b47)])) _
                    refine XS.iconst X47.here hx rfl (hb hby at_135) ?_
                    show Steps p.tables e below (T47.setTop (mkF m 136 #[.val (.int x0), .val (.int x1), .val (.int x2), .val (.long x3), .second, .val (.int x4), .val (.int x5), .val (.int f0), .val (.int f1), .val (.int f2), .val (.int f3), .val (.int f4), .val (.int (x4 &&& (3 : Int32))), .val (.ref b47), .val (.int (100 : Int32)), .unset, .unset, .unset, .unset, .unset, .unset, .unset] [(.int (1 : Int32)), (.int (100 : Int32)), (.ref b47)])) _
                    refine XS.isub X47.here hx rfl (hb hby at_136) rfl ?_
                    show Steps p.tables e below (T47.setTop (mkF m 137 #[.val (.int x0), .val (.int x1), .val (.int x2), .val (.long x3), .second, .val (.int x4), .val (.int x5), .val (.int f0), .val (.int f1), .val (.int f2), .val (.int f3), .val (.int f4), .val (.int (x4 &&& (3 : Int32))), .val (.ref b47), .val (.int (100 : Int32)), .unset, .unset, .unset, .unset, .unset, .unset, .unset] [(.int (99 : Int32)), (.ref b47)])) _
                    refine XS.iload X47.here hx rfl (hb hby at_137) rfl ?_
                    show Steps p.tables e below (T47.setTop (mkF m 139 #[.val (.int x0), .val (.int x1), .val (.int x2), .val (.long x3), .second, .val (.int x4), .val (.int x5), .val (.int f0), .val (.int f1), .val (.int f2), .val (.int f3), .val (.int f4), .val (.int (x4 &&& (3 : Int32))), .val (.ref b47), .val (.int (100 : Int32)), .unset, .unset, .unset, .unset, .unset, .unset, .unset] [(.int x5), (.int (99 : Int32)), (.ref b47)])) _
                    refine XS.bipush X47.here hx rfl (hb hby at_139) ?_
                    show Steps p.tables e below (T47.setTop (mkF m 141 #[.val (.int x0), .val (.int x1), .val (.int x2), .val (.long x3), .second, .val (.int x4), .val (.int x5), .val (.int f0), .val (.int f1), .val (.int f2), .val (.int f3), .val (.int f4), .val (.int (x4 &&& (3 : Int32))), .val (.ref b47), .val (.int (100 : Int32)), .unset, .unset, .unset, .unset, .unset, .unset, .unset] [(.int (8 : Int32)), (.int x5), (.int (99 : Int32)), (.ref b47)])) _
                    refine XS.iushr X47.here hx rfl (hb hby at_141) rfl ?_
                    show Steps p.tables e below (T47.setTop (mkF m 142 #[.val (.int x0), .val (.int x1), .val (.int x2), .val (.long x3), .second, .val (.int x4), .val (.int x5), .val (.int f0), .val (.int f1), .val (.int f2), .val (.int f3), .val (.int f4), .val (.int (x4 &&& (3 : Int32))), .val (.ref b47), .val (.int (100 : Int32)), .unset, .unset, .unset, .unset, .unset, .unset, .unset] [(.int ((x5.toUInt32 >>> ((8 : Int32) &&& 31).toUInt32).toInt32)), (.int (99 : Int32)), (.ref b47)])) _
                    refine XS.i2b X47.here hx rfl (hb hby at_142) rfl ?_
                    show Steps p.tables e below (T47.setTop (mkF m 143 #[.val (.int x0), .val (.int x1), .val (.int x2), .val (.long x3), .second, .val (.int x4), .val (.int x5), .val (.int f0), .val (.int f1), .val (.int f2), .val (.int f3), .val (.int f4), .val (.int (x4 &&& (3 : Int32))), .val (.ref b47), .val (.int (100 : Int32)), .unset, .unset, .unset, .unset, .unset, .unset, .unset] [(.int (((x5.toUInt32 >>> ((8 : Int32) &&& 31).toUInt32).toInt32).toInt8.toInt32)), (.int (99 : Int32)), (.ref b47)])) _
                    refine st51 _ ?_
                    show Steps p.tables e below (T51.setTop (mkF m 144 #[.val (.int x0), .val (.int x1), .val (.int x2), .val (.long x3), .second, .val (.int x4), .val (.int x5), .val (.int f0), .val (.int f1), .val (.int f2), .val (.int f3), .val (.int f4), .val (.int (x4 &&& (3 : Int32))), .val (.ref b47), .val (.int (100 : Int32)), .unset, .unset, .unset, .unset, .unset, .unset, .unset] [])) _
                    refine XS.iload X51.here hx rfl (hb hby at_144) rfl ?_
                    show Steps p.tables e below (T51.setTop (mkF m 146 #[.val (.int x0), .val (.int x1), .val (.int x2), .val (.long x3), .second, .val (.int x4), .val (.int x5), .val (.int f0), .val (.int f1), .val (.int f2), .val (.int f3), .val (.int f4), .val (.int (x4 &&& (3 : Int32))), .val (.ref b47), .val (.int (100 : Int32)), .unset, .unset, .unset, .unset, .unset, .unset, .unset] [(.int (100 : Int32))])) _
                    refine XS.iconst X51.here hx rfl (hb hby at_146) ?_
                    show Steps p.tables e below (T51.setTop (mkF m 147 #[.val (.int x0), .val (.int x1), .val (.int x2), .val (.long x3), .second, .val (.int x4), .val (.int x5), .val (.int f0), .val (.int f1), .val (.int f2), .val (.int f3), .val (.int f4), .val (.int (x4 &&& (3 : Int32))), .val (.ref b47), .val (.int (100 : Int32)), .unset, .unset, .unset, .unset, .unset, .unset, .unset] [(.int (2 : Int32)), (.int (100 : Int32))])) _
                    refine XS.icmpNo X51.here hx rfl (hb hby at_147) rfl (tlt (by decide : (2 : Int32) < (100 : Int32))).2.2.2 ?_
                    show Steps p.tables e below (T51.setTop (mkF m 150 #[.val (.int x0), .val (.int x1), .val (.int x2), .val (.long x3), .second, .val (.int x4), .val (.int x5), .val (.int f0), .val (.int f1), .val (.int f2), .val (.int f3), .val (.int f4), .val (.int (x4 &&& (3 : Int32))), .val (.ref b47), .val (.int (100 : Int32)), .unset, .unset, .unset, .unset, .unset, .unset, .unset] [])) _
                    refine XS.aload X51.here hx rfl (hb hby at_150) rfl rfl ?_
                    show Steps p.tables e below (T51.setTop (mkF m 152 #[.val (.int x0), .val (.int x1), .val (.int x2), .val (.long x3), .second, .val (.int x4), .val (.int x5), .val (.int f0), .val (.int f1), .val (.int f2), .val (.int f3), .val (.int f4), .val (.int (x4 &&& (3 : Int32))), .val (.ref b47), .val (.int (100 : Int32)), .unset, .unset, .unset, .unset, .unset, .unset, .unset] [(.ref b47)])) _
                    refine XS.iload X51.here hx rfl (hb hby at_152) rfl ?_
                    show Steps p.tables e below (T51.setTop (mkF m 154 #[.val (.int x0), .val (.int x1), .val (.int x2), .val (.long x3), .second, .val (.int x4), .val (.int x5), .val (.int f0), .val (.int f1), .val (.int f2), .val (.int f3), .val (.int f4), .val (.int (x4 &&& (3 : Int32))), .val (.ref b47), .val (.int (100 : Int32)), .unset, .unset, .unset, .unset, .unset, .unset, .unset] [(.int (100 : Int32)), (.ref b47)])) _
                    refine XS.iconst X51.here hx rfl (hb hby at_154) ?_
                    show Steps p.tables e below (T51.setTop (mkF m 155 #[.val (.int x0), .val (.int x1), .val (.int x2), .val (.long x3), .second, .val (.int x4), .val (.int x5), .val (.int f0), .val (.int f1), .val (.int f2), .val (.int f3), .val (.int f4), .val (.int (x4 &&& (3 : Int32))), .val (.ref b47), .val (.int (100 : Int32)), .unset, .unset, .unset, .unset, .unset, .unset, .unset] [(.int (2 : Int32)), (.int (100 : Int32)), (.ref b47)])) _
                    refine XS.idiv X51.here hx rfl (hb hby at_155) rfl (by decide) ?_
                    show Steps p.tables e below (T51.setTop (mkF m 156 #[.val (.int x0), .val (.int x1), .val (.int x2), .val (.long x3), .second, .val (.int x4), .val (.int x5), .val (.int f0), .val (.int f1), .val (.int f2), .val (.int f3), .val (.int f4), .val (.int (x4 &&& (3 : Int32))), .val (.ref b47), .val (.int (100 : Int32)), .unset, .unset, .unset, .unset, .unset, .unset, .unset] [(.int ((100 : Int32) / (2 : Int32))), (.ref b47)])) _
                    rw [(show ((100 : Int32) / (2 : Int32)) = (50 : Int32) from by decide)]
                    show Steps p.tables e below (T51.setTop (mkF m 156 #[.val (.int x0), .val (.int x1), .val (.int x2), .val (.long x3), .second, .val (.int x4), .val (.int x5), .val (.int f0), .val (.int f1), .val (.int f2), .val (.int f3), .val (.int f4), .val (.int (x4 &&& (3 : Int32))), .val (.ref b47), .val (.int (100 : Int32)), .unset, .unset, .unset, .unset, .unset, .unset, .unset] [(.int (50 : Int32)), (.ref b47)])) _
                    refine XS.iload X51.here hx rfl (hb hby at_156) rfl ?_
                    show Steps p.tables e below (T51.setTop (mkF m 158 #[.val (.int x0), .val (.int x1), .val (.int x2), .val (.long x3), .second, .val (.int x4), .val (.int x5), .val (.int f0), .val (.int f1), .val (.int f2), .val (.int f3), .val (.int f4), .val (.int (x4 &&& (3 : Int32))), .val (.ref b47), .val (.int (100 : Int32)), .unset, .unset, .unset, .unset, .unset, .unset, .unset] [(.int x5), (.int (50 : Int32)), (.ref b47)])) _
                    refine XS.bipush X51.here hx rfl (hb hby at_158) ?_
                    show Steps p.tables e below (T51.setTop (mkF m 160 #[.val (.int x0), .val (.int x1), .val (.int x2), .val (.long x3), .second, .val (.int x4), .val (.int x5), .val (.int f0), .val (.int f1), .val (.int f2), .val (.int f3), .val (.int f4), .val (.int (x4 &&& (3 : Int32))), .val (.ref b47), .val (.int (100 : Int32)), .unset, .unset, .unset, .unset, .unset, .unset, .unset] [(.int (16 : Int32)), (.int x5), (.int (50 : Int32)), (.ref b47)])) _
                    refine XS.iushr X51.here hx rfl (hb hby at_160) rfl ?_
                    show Steps p.tables e below (T51.setTop (mkF m 161 #[.val (.int x0), .val (.int x1), .val (.int x2), .val (.long x3), .second, .val (.int x4), .val (.int x5), .val (.int f0), .val (.int f1), .val (.int f2), .val (.int f3), .val (.int f4), .val (.int (x4 &&& (3 : Int32))), .val (.ref b47), .val (.int (100 : Int32)), .unset, .unset, .unset, .unset, .unset, .unset, .unset] [(.int ((x5.toUInt32 >>> ((16 : Int32) &&& 31).toUInt32).toInt32)), (.int (50 : Int32)), (.ref b47)])) _
                    refine XS.i2b X51.here hx rfl (hb hby at_161) rfl ?_
                    show Steps p.tables e below (T51.setTop (mkF m 162 #[.val (.int x0), .val (.int x1), .val (.int x2), .val (.long x3), .second, .val (.int x4), .val (.int x5), .val (.int f0), .val (.int f1), .val (.int f2), .val (.int f3), .val (.int f4), .val (.int (x4 &&& (3 : Int32))), .val (.ref b47), .val (.int (100 : Int32)), .unset, .unset, .unset, .unset, .unset, .unset, .unset] [(.int (((x5.toUInt32 >>> ((16 : Int32) &&& 31).toUInt32).toInt32).toInt8.toInt32)), (.int (50 : Int32)), (.ref b47)])) _
                    refine st54 _ ?_
                    show Steps p.tables e below (T54.setTop (mkF m 163 #[.val (.int x0), .val (.int x1), .val (.int x2), .val (.long x3), .second, .val (.int x4), .val (.int x5), .val (.int f0), .val (.int f1), .val (.int f2), .val (.int f3), .val (.int f4), .val (.int (x4 &&& (3 : Int32))), .val (.ref b47), .val (.int (100 : Int32)), .unset, .unset, .unset, .unset, .unset, .unset, .unset] [])) _
                    refine XS.aload X54.here hx rfl (hb hby at_163) rfl rfl ?_
                    show Steps p.tables e below (T54.setTop (mkF m 165 #[.val (.int x0), .val (.int x1), .val (.int x2), .val (.long x3), .second, .val (.int x4), .val (.int x5), .val (.int f0), .val (.int f1), .val (.int f2), .val (.int f3), .val (.int f4), .val (.int (x4 &&& (3 : Int32))), .val (.ref b47), .val (.int (100 : Int32)), .unset, .unset, .unset, .unset, .unset, .unset, .unset] [(.ref b47)])) _
                    refine XS.iconst X54.here hx rfl (hb hby at_165) ?_
                    show Steps p.tables e below (T54.setTop (mkF m 166 #[.val (.int x0), .val (.int x1), .val (.int x2), .val (.long x3), .second, .val (.int x4), .val (.int x5), .val (.int f0), .val (.int f1), .val (.int f2), .val (.int f3), .val (.int f4), .val (.int (x4 &&& (3 : Int32))), .val (.ref b47), .val (.int (100 : Int32)), .unset, .unset, .unset, .unset, .unset, .unset, .unset] [(.int (0 : Int32)), (.ref b47)])) _
                    refine XS.iload X54.here hx rfl (hb hby at_166) rfl ?_
                    show Steps p.tables e below (T54.setTop (mkF m 168 #[.val (.int x0), .val (.int x1), .val (.int x2), .val (.long x3), .second, .val (.int x4), .val (.int x5), .val (.int f0), .val (.int f1), .val (.int f2), .val (.int f3), .val (.int f4), .val (.int (x4 &&& (3 : Int32))), .val (.ref b47), .val (.int (100 : Int32)), .unset, .unset, .unset, .unset, .unset, .unset, .unset] [(.int x5), (.int (0 : Int32)), (.ref b47)])) _
                    refine XS.i2b X54.here hx rfl (hb hby at_168) rfl ?_
                    show Steps p.tables e below (T54.setTop (mkF m 169 #[.val (.int x0), .val (.int x1), .val (.int x2), .val (.long x3), .second, .val (.int x4), .val (.int x5), .val (.int f0), .val (.int f1), .val (.int f2), .val (.int f3), .val (.int f4), .val (.int (x4 &&& (3 : Int32))), .val (.ref b47), .val (.int (100 : Int32)), .unset, .unset, .unset, .unset, .unset, .unset, .unset] [(.int (x5.toInt8.toInt32)), (.int (0 : Int32)), (.ref b47)])) _
                    refine st57 _ ?_
                    exact k)
                  as_aux_lemma =>
                    exact ⟨T57, h57, _, b47, k47, (100 : Int32), ((((List.replicate 100 (0 : Int32)).set 99 (((x5.toUInt32 >>> ((8 : Int32) &&& 31).toUInt32).toInt32).toInt8.toInt32)).set 50 (((x5.toUInt32 >>> ((16 : Int32) &&& 31).toUInt32).toInt32).toInt8.toInt32)).set 0 (x5.toInt8.toInt32)), X57.more (by decide) (by decide), e57, N57, Z58, V_b47, Or.inr (Or.inr (Or.inr rfl)), (by rw [hlen_]; rfl), (fun _ => by simp), (fun _ => by rw [hlen_]; exact show ((((List.replicate 100 (0 : Int32)).set 99 (((x5.toUInt32 >>> ((8 : Int32) &&& 31).toUInt32).toInt32).toInt8.toInt32)).set 50 (((x5.toUInt32 >>> ((16 : Int32) &&& 31).toUInt32).toInt32).toInt8.toInt32)).set 0 (x5.toInt8.toInt32)).getD 99 0 = _ from by simp), (fun _ => by rw [hlen_]; exact show ((((List.replicate 100 (0 : Int32)).set 99 (((x5.toUInt32 >>> ((8 : Int32) &&& 31).toUInt32).toInt32).toInt8.toInt32)).set 50 (((x5.toUInt32 >>> ((16 : Int32) &&& 31).toUInt32).toInt32).toInt8.toInt32)).set 0 (x5.toInt8.toInt32)).getD 50 0 = _ from by simp), (fun _ => by simp), fun t k => pre59 t k⟩
    as_aux_lemma =>
      obtain ⟨T60, h60, X60, e60, E60, A60, D60, U60, st60⟩ := newO X12 hx hZ hown (hw _ (List.mem_of_getElem? (i := 1) rfl)) (hw _ (List.mem_of_getElem? (i := 2) rfl)) (hw _ (List.mem_of_getElem? (i := 3) rfl)) e12 (g := (mkF m 170 #[.val (.int x0), .val (.int x1), .val (.int x2), .val (.long x3), .second, .val (.int x4), .val (.int x5), .val (.int f0), .val (.int f1), .val (.int f2), .val (.int f3), .val (.int f4), .val (.int (x4 &&& (3 : Int32))), .val (.ref pp), .val (.int sz), .unset, .unset, .unset, .unset, .unset, .unset, .unset] [])) rfl (hb hby at_170) (by decide) (by decide)
      obtain ⟨b60, g60⟩ : ∃ z, z = h12.size := ⟨_, rfl⟩
      rw [← g60] at A60 D60 U60 st60
      have g_b60 : n0 ≤ b60 := Nat.le_trans Z12 (Nat.le_of_eq g60.symm)
      have ne_pp_b60 : pp ≠ b60 := Nat.ne_of_lt (Nat.lt_of_lt_of_le Vp.lt (Nat.le_of_eq g60.symm))
      have Vp := Vp.ext E60
      have Z61 : n0 ≤ h60.size := Nat.le_trans Z12 E60.1
      have F_bytes_b60 : Fld Z h60 b60 "com/example/vigilant_consumer/vigilantconsumer/ProtocolWriter" "bytes" "[B" .null := D60 (Or.inl (hw _ (List.mem_of_getElem? (i := 11) rfl))) (ty := (.array .byte)) (by decide)
      have F_length_b60 : Fld Z h60 b60 "com/example/vigilant_consumer/vigilantconsumer/ProtocolWriter" "length" "I" (.int (0 : Int32)) := D60 (Or.inl (hw _ (List.mem_of_getElem? (i := 18) rfl))) (ty := .int) (by decide)
      have E_b60 := A60
      obtain ⟨_, _, ⟨T62, L62, k62, n62⟩, -, X62, ⟨Lc62, hQ62, l62, y62, z62⟩, st62⟩ := X60.specialBack hx (y := (⟨"com/example/vigilant_consumer/vigilantconsumer/ProtocolWriter", "<init>", "()V"⟩ : MethodName)) rfl hown (mvT hZ (hw _ (List.mem_of_getElem? (i := 4) rfl))) (mvT hZ (hw _ (List.mem_of_getElem? (i := 5) rfl))) (mvT hZ (hw _ (List.mem_of_getElem? (i := 6) rfl))) (by decide) (backOf (W := 1) (own_init l Z a0 hw [] b60  h60 n0 Z61 E_b60 F_bytes_b60 F_length_b60 g_b60) hZ (hw _ (List.mem_of_getElem? (i := 6) rfl)) (hw _ (List.mem_of_getElem? (i := 3) rfl)) (by decide) (by decide)) (g := (mkF m 174 #[.val (.int x0), .val (.int x1), .val (.int x2), .val (.long x3), .second, .val (.int x4), .val (.int x5), .val (.int f0), .val (.int f1), .val (.int f2), .val (.int f3), .val (.int f4), .val (.int (x4 &&& (3 : Int32))), .val (.ref pp), .val (.int sz), .unset, .unset, .unset, .unset, .unset, .unset, .unset] [(.ref b60), (.ref b60)])) rfl (by rw [hml]; rfl) (Steps.refl _) (a := b60) (argsL := []) (rest := [(.ref b60)]) (lenOf own_pd5 rfl) rfl (by show 2 * 0 + _ ≤ _; exact Nat.le_of_eq rfl) (hb hby at_174) (fun _ _ => ⟨rfl, e60, (by decide : 2 + 1 ≤ _), (by decide : 102 + 64 ≤ _)⟩)
      dsimp only [Pt.U, Pt.locs, Pt.cells, Pt.slots] at X62 l62 y62 z62 st62 hQ62
      subst l62 y62 z62
      obtain ⟨bf, kb, rfl, N62q, K62, Fb, Fl, Vb, Eb, sz62⟩ := hQ62
      have N62 := Fr.app N12 N62q
      have g_bf : n0 ≤ bf := Nat.le_trans Z61 sz62
      have ne_pp_bf : pp ≠ bf := Nat.ne_of_lt (Nat.lt_of_lt_of_le Vp.lt sz62)
      have ne_b60_bf : b60 ≠ bf := Nat.ne_of_lt (Nat.lt_of_lt_of_le F_bytes_b60.lt sz62)
      have Vp := Vp.keep K62 (ninS ne_pp_b60 nin0)
      have E_b60 := E_b60.keep K62
      have Z63 := Nat.le_trans Z61 K62.1
      have hz0 : (0 : Int32).toInt = (([] : List Int32).length : Int) := rfl
      have hb0_ : ([] : List Int32).length ≤ 0 := Nat.le_refl _
      have pre65 : ∀ t, Steps p.tables e below (T62.setTop (mkF m 179 #[.val (.int x0), .val (.int x1), .val (.int x2), .val (.long x3), .second, .val (.int x4), .val (.int x5), .val (.int f0), .val (.int f1), .val (.int f2), .val (.int f3), .val (.int f4), .val (.int (x4 &&& (3 : Int32))), .val (.ref pp), .val (.int sz), .val (.ref b60), .unset, .unset, .unset, .unset, .unset, .unset] [])) t → Steps p.tables e below (s₁.setTop (entryFrame m #[(.int x0), (.int x1), (.int x2), (.long x3), (.int x4), (.int x5)] maxLocals)) t := fun t k => pre12 t (by
        show Steps p.tables e below (T12.setTop (mkF m 170 #[.val (.int x0), .val (.int x1), .val (.int x2), .val (.long x3), .second, .val (.int x4), .val (.int x5), .val (.int f0), .val (.int f1), .val (.int f2), .val (.int f3), .val (.int f4), .val (.int (x4 &&& (3 : Int32))), .val (.ref pp), .val (.int sz), .unset, .unset, .unset, .unset, .unset, .unset, .unset] [])) _
        refine st60 _ ?_
        show Steps p.tables e below (T60.setTop (mkF m 173 #[.val (.int x0), .val (.int x1), .val (.int x2), .val (.long x3), .second, .val (.int x4), .val (.int x5), .val (.int f0), .val (.int f1), .val (.int f2), .val (.int f3), .val (.int f4), .val (.int (x4 &&& (3 : Int32))), .val (.ref pp), .val (.int sz), .unset, .unset, .unset, .unset, .unset, .unset, .unset] [(.ref b60)])) _
        refine XS.dup X60.here hx rfl (hb hby at_173) rfl rfl ?_
        show Steps p.tables e below (T60.setTop (mkF m 174 #[.val (.int x0), .val (.int x1), .val (.int x2), .val (.long x3), .second, .val (.int x4), .val (.int x5), .val (.int f0), .val (.int f1), .val (.int f2), .val (.int f3), .val (.int f4), .val (.int (x4 &&& (3 : Int32))), .val (.ref pp), .val (.int sz), .unset, .unset, .unset, .unset, .unset, .unset, .unset] [(.ref b60), (.ref b60)])) _
        refine st62.trans ?_
        show Steps p.tables e below (T62.setTop (mkF m 177 #[.val (.int x0), .val (.int x1), .val (.int x2), .val (.long x3), .second, .val (.int x4), .val (.int x5), .val (.int f0), .val (.int f1), .val (.int f2), .val (.int f3), .val (.int f4), .val (.int (x4 &&& (3 : Int32))), .val (.ref pp), .val (.int sz), .unset, .unset, .unset, .unset, .unset, .unset, .unset] [(.ref b60)])) _
        refine XS.astore X62.here hx rfl (hb hby at_177) rfl rfl (l' := #[.val (.int x0), .val (.int x1), .val (.int x2), .val (.long x3), .second, .val (.int x4), .val (.int x5), .val (.int f0), .val (.int f1), .val (.int f2), .val (.int f3), .val (.int f4), .val (.int (x4 &&& (3 : Int32))), .val (.ref pp), .val (.int sz), .val (.ref b60), .unset, .unset, .unset, .unset, .unset, .unset]) rfl ?_
        exact k)
      obtain ⟨T64, h64, LL64, D1, z1, X64, e64, N64, Z64, Ew, Fb, Fl, Vb, Eb, Vp, hD1e, hz1e, hz1, hb1_, pre64⟩ : ∃ (T64 : State) (h64 : Heap) (LL64 : List Loc) (D1 : List Int32) (z1 : Int32), Stand p l e room_1 s m #[(.int x0), (.int x1), (.int x2), (.long x3), (.int x4), (.int x5)] below meth c T64 LL64 3 166 ∧ T64.heap = h64 ∧ Fr n0 LL64 ∧ n0 ≤ h64.size ∧ (Exa Z h64 b60 "com/example/vigilant_consumer/vigilantconsumer/ProtocolWriter") ∧ (Fld Z h64 b60 "com/example/vigilant_consumer/vigilantconsumer/ProtocolWriter" "bytes" "[B" (.ref bf)) ∧ (Fld Z h64 b60 "com/example/vigilant_consumer/vigilantconsumer/ProtocolWriter" "length" "I" (.int z1)) ∧ (Arv Z h64 bf kb .byte (64 : Int32) (List.map Value.int D1) (.int (0 : Int32))) ∧ (Exa Z h64 bf "[B") ∧ (Arv Z h64 pp kp .byte sz (List.map Value.int PP) (.int (0 : Int32))) ∧ (D1 = (if f0 = (0 : Int32) then [] else [(x0.toInt8.toInt32)])) ∧ (z1 = (if ¬ (f0 = (0 : Int32)) then (1 : Int32) else (0 : Int32))) ∧ (z1.toInt = (D1.length : Int)) ∧ (D1.length ≤ 1) ∧ (∀ t, Steps p.tables e below (T64.setTop (mkF m 190 #[.val (.int x0), .val (.int x1), .val (.int x2), .val (.long x3), .second, .val (.int x4), .val (.int x5), .val (.int f0), .val (.int f1), .val (.int f2), .val (.int f3), .val (.int f4), .val (.int (x4 &&& (3 : Int32))), .val (.ref pp), .val (.int sz), .val (.ref b60), .unset, .unset, .unset, .unset, .unset, .unset] [])) t → Steps p.tables e below (s₁.setTop (entryFrame m #[(.int x0), (.int x1), (.int x2), (.long x3), (.int x4), (.int x5)] maxLocals)) t) := by
        have pre66 : ∀ t, Steps p.tables e below (T62.setTop (mkF m 181 #[.val (.int x0), .val (.int x1), .val (.int x2), .val (.long x3), .second, .val (.int x4), .val (.int x5), .val (.int f0), .val (.int f1), .val (.int f2), .val (.int f3), .val (.int f4), .val (.int (x4 &&& (3 : Int32))), .val (.ref pp), .val (.int sz), .val (.ref b60), .unset, .unset, .unset, .unset, .unset, .unset] [(.int f0)])) t → Steps p.tables e below (s₁.setTop (entryFrame m #[(.int x0), (.int x1), (.int x2), (.long x3), (.int x4), (.int x5)] maxLocals)) t := fun t k => pre65 t (by
          show Steps p.tables e below (T62.setTop (mkF m 179 #[.val (.int x0), .val (.int x1), .val (.int x2), .val (.long x3), .second, .val (.int x4), .val (.int x5), .val (.int f0), .val (.int f1), .val (.int f2), .val (.int f3), .val (.int f4), .val (.int (x4 &&& (3 : Int32))), .val (.ref pp), .val (.int sz), .val (.ref b60), .unset, .unset, .unset, .unset, .unset, .unset] [])) _
          refine XS.iload X62.here hx rfl (hb hby at_179) rfl ?_
          show Steps p.tables e below (T62.setTop (mkF m 181 #[.val (.int x0), .val (.int x1), .val (.int x2), .val (.long x3), .second, .val (.int x4), .val (.int x5), .val (.int f0), .val (.int f1), .val (.int f2), .val (.int f3), .val (.int f4), .val (.int (x4 &&& (3 : Int32))), .val (.ref pp), .val (.int sz), .val (.ref b60), .unset, .unset, .unset, .unset, .unset, .unset] [(.int f0)])) _
          exact k)
        by_cases hc67 : f0 = (0 : Int32)
        · skip
          as_aux_lemma =>
            have pre68 : ∀ t, Steps p.tables e below (T62.setTop (mkF m 190 #[.val (.int x0), .val (.int x1), .val (.int x2), .val (.long x3), .second, .val (.int x4), .val (.int x5), .val (.int f0), .val (.int f1), .val (.int f2), .val (.int f3), .val (.int f4), .val (.int (x4 &&& (3 : Int32))), .val (.ref pp), .val (.int sz), .val (.ref b60), .unset, .unset, .unset, .unset, .unset, .unset] [])) t → Steps p.tables e below (s₁.setTop (entryFrame m #[(.int x0), (.int x1), (.int x2), (.long x3), (.int x4), (.int x5)] maxLocals)) t := fun t k => pre66 t (by
              refine XS.ifYes X62.here hx rfl (pc0 := 181) (pc' := 190) rfl (hb hby at_181) rfl ((if0 _ _).trans (teq hc67).1) (by decide) (by decide) ?_
              exact k)
            as_aux_lemma =>
              exact ⟨T62, T62.heap, _, ([] : List Int32), (0 : Int32), X62.more (by decide) (by decide), rfl, N62, Z63, E_b60, Fb, Fl, Vb, Eb, Vp, (by rw [if_pos hc67]), (by rw [if_neg (not_not_intro hc67)]), hz0, (Nat.le_trans hb0_ (by decide)), fun t k => pre68 t k⟩
        · skip
          as_aux_lemma =>
            obtain ⟨cq69, kq69, q69a, q69b, q69c⟩ := isOf hZ rfl E_b60
            obtain ⟨_, _, ⟨T69, L69, k69, n69⟩, -, X69, ⟨Lc69, hQ69, l69, y69, z69⟩, st69⟩ := X62.virtualBack hx (y := (⟨"com/example/vigilant_consumer/vigilantconsumer/ProtocolWriter", "int8", "(I)V"⟩ : MethodName)) (z := (⟨"com/example/vigilant_consumer/vigilantconsumer/ProtocolWriter", "int8", "(I)V"⟩ : MethodName)) hown (mvT hZ (hw _ (List.mem_of_getElem? (i := 31) rfl))) (mvT hZ (hw _ (List.mem_of_getElem? (i := 32) rfl))) (notFace_of_selects (args := #[]) (mvT hZ (hw _ (List.mem_of_getElem? (i := 34) rfl)))) (mvT hZ (hw _ (List.mem_of_getElem? (i := 34) rfl))) (mvT hZ (hw _ (List.mem_of_getElem? (i := 33) rfl))) (by decide) (backOf (W := 0) (own_int8N l Z a0 hw [] b60 x0 bf kb (64 : Int32) (0 : Int32) ([] : List Int32) T62.heap n0 Z63 E_b60 Fb Fl Vb g_b60 g_bf hz0 (by have q_ := hb0_; show _ + (1 : Int) ≤ (64 : Int); omega) (by decide)) hZ (hw _ (List.mem_of_getElem? (i := 35) rfl)) (hw _ (List.mem_of_getElem? (i := 3) rfl)) (by decide) (by decide)) q69a q69c (g := (mkF m 187 #[.val (.int x0), .val (.int x1), .val (.int x2), .val (.long x3), .second, .val (.int x4), .val (.int x5), .val (.int f0), .val (.int f1), .val (.int f2), .val (.int f3), .val (.int f4), .val (.int (x4 &&& (3 : Int32))), .val (.ref pp), .val (.int sz), .val (.ref b60), .unset, .unset, .unset, .unset, .unset, .unset] [(.int x0), (.ref b60)])) rfl (by rw [hml]; rfl) (Steps.refl _) (argsL := [(.int x0)]) (rest := []) (lenOf own_pd0 rfl) rfl (by show 2 * 0 + _ ≤ _; exact Nat.le_of_eq rfl) (hb hby at_187) (fun _ _ => ⟨rfl, rfl, (by decide : 3 + 0 ≤ _), (by decide : 166 + 0 ≤ _)⟩)
            dsimp only [Pt.U, Pt.locs, Pt.cells, Pt.slots] at X69 l69 y69 z69 st69 hQ69
            subst l69 y69 z69
            obtain ⟨rfl, N69q, K69, Fb69, Fl69, Vb69⟩ := hQ69
            have N69 := Fr.app N62 N69q
            have Vp := Vp.keep K69 (ninS ne_pp_b60 (ninS ne_pp_bf nin0))
            have E_b60 := E_b60.keep K69
            have Eb := Eb.keep K69
            have Z70 := Nat.le_trans Z63 K69.1
            have pre71 : ∀ t, Steps p.tables e below (T69.setTop (mkF m 190 #[.val (.int x0), .val (.int x1), .val (.int x2), .val (.long x3), .second, .val (.int x4), .val (.int x5), .val (.int f0), .val (.int f1), .val (.int f2), .val (.int f3), .val (.int f4), .val (.int (x4 &&& (3 : Int32))), .val (.ref pp), .val (.int sz), .val (.ref b60), .unset, .unset, .unset, .unset, .unset, .unset] [])) t → Steps p.tables e below (s₁.setTop (entryFrame m #[(.int x0), (.int x1), (.int x2), (.long x3), (.int x4), (.int x5)] maxLocals)) t := fun t k => pre66 t (by
              refine XS.ifNo X62.here hx rfl (hb hby at_181) rfl ((if0 _ _).trans (feq hc67).1) ?_
              show Steps p.tables e below (T62.setTop (mkF m 184 #[.val (.int x0), .val (.int x1), .val (.int x2), .val (.long x3), .second, .val (.int x4), .val (.int x5), .val (.int f0), .val (.int f1), .val (.int f2), .val (.int f3), .val (.int f4), .val (.int (x4 &&& (3 : Int32))), .val (.ref pp), .val (.int sz), .val (.ref b60), .unset, .unset, .unset, .unset, .unset, .unset] [])) _
              refine XS.aload X62.here hx rfl (hb hby at_184) rfl rfl ?_
              show Steps p.tables e below (T62.setTop (mkF m 186 #[.val (.int x0), .val (.int x1), .val (.int x2), .val (.long x3), .second, .val (.int x4), .val (.int x5), .val (.int f0), .val (.int f1), .val (.int f2), .val (.int f3), .val (.int f4), .val (.int (x4 &&& (3 : Int32))), .val (.ref pp), .val (.int sz), .val (.ref b60), .unset, .unset, .unset, .unset, .unset, .unset] [(.ref b60)])) _
              refine XS.iloadN X62.here hx rfl (hb hby at_186) rfl ?_
              show Steps p.tables e below (T62.setTop (mkF m 187 #[.val (.int x0), .val (.int x1), .val (.int x2), .val (.long x3), .second, .val (.int x4), .val (.int x5), .val (.int f0), .val (.int f1), .val (.int f2), .val (.int f3), .val (.int f4), .val (.int (x4 &&& (3 : Int32))), .val (.ref pp), .val (.int sz), .val (.ref b60), .unset, .unset, .unset, .unset, .unset, .unset] [(.int x0), (.ref b60)])) _
              refine st69.trans ?_
              exact k)
            as_aux_lemma =>
              exact ⟨T69, T69.heap, _, (([] : List Int32) ++ [(x0.toInt8.toInt32)]), ((0 : Int32) + (1 : Int32)), X69.more (by decide) (by decide), rfl, N69, Z70, E_b60, Fb69, Fl69, Vb69, Eb, Vp, (by rw [if_neg hc67]; first | done | rfl), (by rw [if_pos hc67]; first | done | rfl), (own_hzA hz0 (show (1 : Int32).toInt = (([(x0.toInt8.toInt32)]).length : Int) from rfl) (by have q_ := hb0_; show _ + (1 : Int) ≤ 1000; omega)), (by rw [List.length_append]; have q_ := hb0_; show _ + 1 ≤ 1; omega), fun t k => pre71 t k⟩
      as_aux_lemma =>
        obtain ⟨T72, h72, LL72, D2, z2, X72, e72, N72, Z72, Ew, Fb, Fl, Vb, Eb, Vp, hD2e, hz2e, hz2, hb2_, pre72⟩ : ∃ (T72 : State) (h72 : Heap) (LL72 : List Loc) (D2 : List Int32) (z2 : Int32), Stand p l e room_1 s m #[(.int x0), (.int x1), (.int x2), (.long x3), (.int x4), (.int x5)] below meth c T72 LL72 3 166 ∧ T72.heap = h72 ∧ Fr n0 LL72 ∧ n0 ≤ h72.size ∧ (Exa Z h72 b60 "com/example/vigilant_consumer/vigilantconsumer/ProtocolWriter") ∧ (Fld Z h72 b60 "com/example/vigilant_consumer/vigilantconsumer/ProtocolWriter" "bytes" "[B" (.ref bf)) ∧ (Fld Z h72 b60 "com/example/vigilant_consumer/vigilantconsumer/ProtocolWriter" "length" "I" (.int z2)) ∧ (Arv Z h72 bf kb .byte (64 : Int32) (List.map Value.int D2) (.int (0 : Int32))) ∧ (Exa Z h72 bf "[B") ∧ (Arv Z h72 pp kp .byte sz (List.map Value.int PP) (.int (0 : Int32))) ∧ (D2 = (D1 ++ (if f1 = (0 : Int32) then [] else own_l16 x1))) ∧ (z2 = (z1 + (if f1 = (0 : Int32) then (0 : Int32) else (2 : Int32)))) ∧ (z2.toInt = (D2.length : Int)) ∧ (D2.length ≤ 3) ∧ (∀ t, Steps p.tables e below (T72.setTop (mkF m 201 #[.val (.int x0), .val (.int x1), .val (.int x2), .val (.long x3), .second, .val (.int x4), .val (.int x5), .val (.int f0), .val (.int f1), .val (.int f2), .val (.int f3), .val (.int f4), .val (.int (x4 &&& (3 : Int32))), .val (.ref pp), .val (.int sz), .val (.ref b60), .unset, .unset, .unset, .unset, .unset, .unset] [])) t → Steps p.tables e below (s₁.setTop (entryFrame m #[(.int x0), (.int x1), (.int x2), (.long x3), (.int x4), (.int x5)] maxLocals)) t) := by
          have pre73 : ∀ t, Steps p.tables e below (T64.setTop (mkF m 192 #[.val (.int x0), .val (.int x1), .val (.int x2), .val (.long x3), .second, .val (.int x4), .val (.int x5), .val (.int f0), .val (.int f1), .val (.int f2), .val (.int f3), .val (.int f4), .val (.int (x4 &&& (3 : Int32))), .val (.ref pp), .val (.int sz), .val (.ref b60), .unset, .unset, .unset, .unset, .unset, .unset] [(.int f1)])) t → Steps p.tables e below (s₁.setTop (entryFrame m #[(.int x0), (.int x1), (.int x2), (.long x3), (.int x4), (.int x5)] maxLocals)) t := fun t k => pre64 t (by
            show Steps p.tables e below (T64.setTop (mkF m 190 #[.val (.int x0), .val (.int x1), .val (.int x2), .val (.long x3), .second, .val (.int x4), .val (.int x5), .val (.int f0), .val (.int f1), .val (.int f2), .val (.int f3), .val (.int f4), .val (.int (x4 &&& (3 : Int32))), .val (.ref pp), .val (.int sz), .val (.ref b60), .unset, .unset, .unset, .unset, .unset, .unset] [])) _
            refine XS.iload X64.here hx rfl (hb hby at_190) rfl ?_
            show Steps p.tables e below (T64.setTop (mkF m 192 #[.val (.int x0), .val (.int x1), .val (.int x2), .val (.long x3), .second, .val (.int x4), .val (.int x5), .val (.int f0), .val (.int f1), .val (.int f2), .val (.int f3), .val (.int f4), .val (.int (x4 &&& (3 : Int32))), .val (.ref pp), .val (.int sz), .val (.ref b60), .unset, .unset, .unset, .unset, .unset, .unset] [(.int f1)])) _
            exact k)
          by_cases hc74 : f1 = (0 : Int32)
          · skip
            as_aux_lemma =>
              have pre75 : ∀ t, Steps p.tables e below (T64.setTop (mkF m 201 #[.val (.int x0), .val (.int x1), .val (.int x2), .val (.long x3), .second, .val (.int x4), .val (.int x5), .val (.int f0), .val (.int f1), .val (.int f2), .val (.int f3), .val (.int f4), .val (.int (x4 &&& (3 : Int32))), .val (.ref pp), .val (.int sz), .val (.ref b60), .unset, .unset, .unset, .unset, .unset, .unset] [])) t → Steps p.tables e below (s₁.setTop (entryFrame m #[(.int x0), (.int x1), (.int x2), (.long x3), (.int x4), (.int x5)] maxLocals)) t := fun t k => pre73 t (by
                refine XS.ifYes X64.here hx rfl (pc0 := 192) (pc' := 201) rfl (hb hby at_192) rfl ((if0 _ _).trans (teq hc74).1) (by decide) (by decide) ?_
                exact k)
              as_aux_lemma =>
                exact ⟨T64, h64, _, D1, z1, X64.more (by decide) (by decide), e64, N64, Z64, Ew, Fb, Fl, Vb, Eb, Vp, (by rw [if_pos hc74, List.append_nil]), (by rw [if_pos hc74, Int32.add_zero]), hz1, (Nat.le_trans hb1_ (by decide)), fun t k => pre75 t k⟩
          · skip
            as_aux_lemma =>
              obtain ⟨cq76, kq76, q76a, q76b, q76c⟩ := isOf hZ e64 Ew
              obtain ⟨_, _, ⟨T76, L76, k76, n76⟩, -, X76, ⟨Lc76, hQ76, l76, y76, z76⟩, st76⟩ := X64.virtualBack hx (y := (⟨"com/example/vigilant_consumer/vigilantconsumer/ProtocolWriter", "int16", "(I)V"⟩ : MethodName)) (z := (⟨"com/example/vigilant_consumer/vigilantconsumer/ProtocolWriter", "int16", "(I)V"⟩ : MethodName)) hown (mvT hZ (hw _ (List.mem_of_getElem? (i := 40) rfl))) (mvT hZ (hw _ (List.mem_of_getElem? (i := 41) rfl))) (notFace_of_selects (args := #[]) (mvT hZ (hw _ (List.mem_of_getElem? (i := 43) rfl)))) (mvT hZ (hw _ (List.mem_of_getElem? (i := 43) rfl))) (mvT hZ (hw _ (List.mem_of_getElem? (i := 42) rfl))) (by decide) (backOf (W := 0) (own_int16N l Z a0 hw [] b60 x1 bf kb (64 : Int32) z1 D1 h64 n0 Z64 Ew Fb Fl Vb g_b60 g_bf hz1 (by have q_ := hb1_; show _ + (2 : Int) ≤ (64 : Int); omega) (by decide)) hZ (hw _ (List.mem_of_getElem? (i := 44) rfl)) (hw _ (List.mem_of_getElem? (i := 3) rfl)) (by decide) (by decide)) q76a q76c (g := (mkF m 198 #[.val (.int x0), .val (.int x1), .val (.int x2), .val (.long x3), .second, .val (.int x4), .val (.int x5), .val (.int f0), .val (.int f1), .val (.int f2), .val (.int f3), .val (.int f4), .val (.int (x4 &&& (3 : Int32))), .val (.ref pp), .val (.int sz), .val (.ref b60), .unset, .unset, .unset, .unset, .unset, .unset] [(.int x1), (.ref b60)])) rfl (by rw [hml]; rfl) (Steps.refl _) (argsL := [(.int x1)]) (rest := []) (lenOf own_pd0 rfl) rfl (by show 2 * 0 + _ ≤ _; exact Nat.le_of_eq rfl) (hb hby at_198) (fun _ _ => ⟨rfl, e64, (by decide : 3 + 0 ≤ _), (by decide : 166 + 0 ≤ _)⟩)
              dsimp only [Pt.U, Pt.locs, Pt.cells, Pt.slots] at X76 l76 y76 z76 st76 hQ76
              subst l76 y76 z76
              obtain ⟨rfl, N76q, K76, Fb76, Fl76, Vb76⟩ := hQ76
              have N76 := Fr.app N64 N76q
              have Ew := Ew.keep K76
              have Eb := Eb.keep K76
              have Vp := Vp.keep K76 (ninS ne_pp_b60 (ninS ne_pp_bf nin0))
              have Z77 := Nat.le_trans Z64 K76.1
              have pre78 : ∀ t, Steps p.tables e below (T76.setTop (mkF m 201 #[.val (.int x0), .val (.int x1), .val (.int x2), .val (.long x3), .second, .val (.int x4), .val (.int x5), .val (.int f0), .val (.int f1), .val (.int f2), .val (.int f3), .val (.int f4), .val (.int (x4 &&& (3 : Int32))), .val (.ref pp), .val (.int sz), .val (.ref b60), .unset, .unset, .unset, .unset, .unset, .unset] [])) t → Steps p.tables e below (s₁.setTop (entryFrame m #[(.int x0), (.int x1), (.int x2), (.long x3), (.int x4), (.int x5)] maxLocals)) t := fun t k => pre73 t (by
                refine XS.ifNo X64.here hx rfl (hb hby at_192) rfl ((if0 _ _).trans (feq hc74).1) ?_
                show Steps p.tables e below (T64.setTop (mkF m 195 #[.val (.int x0), .val (.int x1), .val (.int x2), .val (.long x3), .second, .val (.int x4), .val (.int x5), .val (.int f0), .val (.int f1), .val (.int f2), .val (.int f3), .val (.int f4), .val (.int (x4 &&& (3 : Int32))), .val (.ref pp), .val (.int sz), .val (.ref b60), .unset, .unset, .unset, .unset, .unset, .unset] [])) _
                refine XS.aload X64.here hx rfl (hb hby at_195) rfl rfl ?_
                show Steps p.tables e below (T64.setTop (mkF m 197 #[.val (.int x0), .val (.int x1), .val (.int x2), .val (.long x3), .second, .val (.int x4), .val (.int x5), .val (.int f0), .val (.int f1), .val (.int f2), .val (.int f3), .val (.int f4), .val (.int (x4 &&& (3 : Int32))), .val (.ref pp), .val (.int sz), .val (.ref b60), .unset, .unset, .unset, .unset, .unset, .unset] [(.ref b60)])) _
                refine XS.iloadN X64.here hx rfl (hb hby at_197) rfl ?_
                show Steps p.tables e below (T64.setTop (mkF m 198 #[.val (.int x0), .val (.int x1), .val (.int x2), .val (.long x3), .second, .val (.int x4), .val (.int x5), .val (.int f0), .val (.int f1), .val (.int f2), .val (.int f3), .val (.int f4), .val (.int (x4 &&& (3 : Int32))), .val (.ref pp), .val (.int sz), .val (.ref b60), .unset, .unset, .unset, .unset, .unset, .unset] [(.int x1), (.ref b60)])) _
                refine st76.trans ?_
                exact k)
              as_aux_lemma =>
                exact ⟨T76, T76.heap, _, (D1 ++ own_l16 x1), (z1 + (2 : Int32)), X76.more (by decide) (by decide), rfl, N76, Z77, Ew, Fb76, Fl76, Vb76, Eb, Vp, (by rw [if_neg hc74]; first | done | rfl), (by rw [if_neg hc74]; first | done | rfl), (own_hzA hz1 (show (2 : Int32).toInt = ((own_l16 x1).length : Int) from rfl) (by have q_ := hb1_; show _ + (2 : Int) ≤ 1000; omega)), (by rw [List.length_append]; have q_ := hb1_; show _ + 2 ≤ 3; omega), fun t k => pre78 t k⟩
        as_aux_lemma =>
          obtain ⟨T79, h79, LL79, D3, z3, X79, e79, N79, Z79, Ew, Fb, Fl, Vb, Eb, Vp, hD3e, hz3e, hz3, hb3_, pre79⟩ : ∃ (T79 : State) (h79 : Heap) (LL79 : List Loc) (D3 : List Int32) (z3 : Int32), Stand p l e room_1 s m #[(.int x0), (.int x1), (.int x2), (.long x3), (.int x4), (.int x5)] below meth c T79 LL79 3 166 ∧ T79.heap = h79 ∧ Fr n0 LL79 ∧ n0 ≤ h79.size ∧ (Exa Z h79 b60 "com/example/vigilant_consumer/vigilantconsumer/ProtocolWriter") ∧ (Fld Z h79 b60 "com/example/vigilant_consumer/vigilantconsumer/ProtocolWriter" "bytes" "[B" (.ref bf)) ∧ (Fld Z h79 b60 "com/example/vigilant_consumer/vigilantconsumer/ProtocolWriter" "length" "I" (.int z3)) ∧ (Arv Z h79 bf kb .byte (64 : Int32) (List.map Value.int D3) (.int (0 : Int32))) ∧ (Exa Z h79 bf "[B") ∧ (Arv Z h79 pp kp .byte sz (List.map Value.int PP) (.int (0 : Int32))) ∧ (D3 = (D2 ++ (if f2 = (0 : Int32) then [] else own_l32 x2))) ∧ (z3 = (z2 + (if f2 = (0 : Int32) then (0 : Int32) else (4 : Int32)))) ∧ (z3.toInt = (D3.length : Int)) ∧ (D3.length ≤ 7) ∧ (∀ t, Steps p.tables e below (T79.setTop (mkF m 212 #[.val (.int x0), .val (.int x1), .val (.int x2), .val (.long x3), .second, .val (.int x4), .val (.int x5), .val (.int f0), .val (.int f1), .val (.int f2), .val (.int f3), .val (.int f4), .val (.int (x4 &&& (3 : Int32))), .val (.ref pp), .val (.int sz), .val (.ref b60), .unset, .unset, .unset, .unset, .unset, .unset] [])) t → Steps p.tables e below (s₁.setTop (entryFrame m #[(.int x0), (.int x1), (.int x2), (.long x3), (.int x4), (.int x5)] maxLocals)) t) := by
            have pre80 : ∀ t, Steps p.tables e below (T72.setTop (mkF m 203 #[.val (.int x0), .val (.int x1), .val (.int x2), .val (.long x3), .second, .val (.int x4), .val (.int x5), .val (.int f0), .val (.int f1), .val (.int f2), .val (.int f3), .val (.int f4), .val (.int (x4 &&& (3 : Int32))), .val (.ref pp), .val (.int sz), .val (.ref b60), .unset, .unset, .unset, .unset, .unset, .unset] [(.int f2)])) t → Steps p.tables e below (s₁.setTop (entryFrame m #[(.int x0), (.int x1), (.int x2), (.long x3), (.int x4), (.int x5)] maxLocals)) t := fun t k => pre72 t (by
              show Steps p.tables e below (T72.setTop (mkF m 201 #[.val (.int x0), .val (.int x1), .val (.int x2), .val (.long x3), .second, .val (.int x4), .val (.int x5), .val (.int f0), .val (.int f1), .val (.int f2), .val (.int f3), .val (.int f4), .val (.int (x4 &&& (3 : Int32))), .val (.ref pp), .val (.int sz), .val (.ref b60), .unset, .unset, .unset, .unset, .unset, .unset] [])) _
              refine XS.iload X72.here hx rfl (hb hby at_201) rfl ?_
              show Steps p.tables e below (T72.setTop (mkF m 203 #[.val (.int x0), .val (.int x1), .val (.int x2), .val (.long x3), .second, .val (.int x4), .val (.int x5), .val (.int f0), .val (.int f1), .val (.int f2), .val (.int f3), .val (.int f4), .val (.int (x4 &&& (3 : Int32))), .val (.ref pp), .val (.int sz), .val (.ref b60), .unset, .unset, .unset, .unset, .unset, .unset] [(.int f2)])) _
              exact k)
            by_cases hc81 : f2 = (0 : Int32)
            · skip
              as_aux_lemma =>
                have pre82 : ∀ t, Steps p.tables e below (T72.setTop (mkF m 212 #[.val (.int x0), .val (.int x1), .val (.int x2), .val (.long x3), .second, .val (.int x4), .val (.int x5), .val (.int f0), .val (.int f1), .val (.int f2), .val (.int f3), .val (.int f4), .val (.int (x4 &&& (3 : Int32))), .val (.ref pp), .val (.int sz), .val (.ref b60), .unset, .unset, .unset, .unset, .unset, .unset] [])) t → Steps p.tables e below (s₁.setTop (entryFrame m #[(.int x0), (.int x1), (.int x2), (.long x3), (.int x4), (.int x5)] maxLocals)) t := fun t k => pre80 t (by
                  refine XS.ifYes X72.here hx rfl (pc0 := 203) (pc' := 212) rfl (hb hby at_203) rfl ((if0 _ _).trans (teq hc81).1) (by decide) (by decide) ?_
                  exact k)
                as_aux_lemma =>
                  exact ⟨T72, h72, _, D2, z2, X72.more (by decide) (by decide), e72, N72, Z72, Ew, Fb, Fl, Vb, Eb, Vp, (by rw [if_pos hc81, List.append_nil]), (by rw [if_pos hc81, Int32.add_zero]), hz2, (Nat.le_trans hb2_ (by decide)), fun t k => pre82 t k⟩
            · skip
              as_aux_lemma =>
                obtain ⟨cq83, kq83, q83a, q83b, q83c⟩ := isOf hZ e72 Ew
                obtain ⟨_, _, ⟨T83, L83, k83, n83⟩, -, X83, ⟨Lc83, hQ83, l83, y83, z83⟩, st83⟩ := X72.virtualBack hx (y := (⟨"com/example/vigilant_consumer/vigilantconsumer/ProtocolWriter", "int32", "(I)V"⟩ : MethodName)) (z := (⟨"com/example/vigilant_consumer/vigilantconsumer/ProtocolWriter", "int32", "(I)V"⟩ : MethodName)) hown (mvT hZ (hw _ (List.mem_of_getElem? (i := 45) rfl))) (mvT hZ (hw _ (List.mem_of_getElem? (i := 46) rfl))) (notFace_of_selects (args := #[]) (mvT hZ (hw _ (List.mem_of_getElem? (i := 48) rfl)))) (mvT hZ (hw _ (List.mem_of_getElem? (i := 48) rfl))) (mvT hZ (hw _ (List.mem_of_getElem? (i := 47) rfl))) (by decide) (backOf (W := 0) (own_int32N l Z a0 hw [] b60 x2 bf kb (64 : Int32) z2 D2 h72 n0 Z72 Ew Fb Fl Vb g_b60 g_bf hz2 (by have q_ := hb2_; show _ + (4 : Int) ≤ (64 : Int); omega) (by decide)) hZ (hw _ (List.mem_of_getElem? (i := 49) rfl)) (hw _ (List.mem_of_getElem? (i := 3) rfl)) (by decide) (by decide)) q83a q83c (g := (mkF m 209 #[.val (.int x0), .val (.int x1), .val (.int x2), .val (.long x3), .second, .val (.int x4), .val (.int x5), .val (.int f0), .val (.int f1), .val (.int f2), .val (.int f3), .val (.int f4), .val (.int (x4 &&& (3 : Int32))), .val (.ref pp), .val (.int sz), .val (.ref b60), .unset, .unset, .unset, .unset, .unset, .unset] [(.int x2), (.ref b60)])) rfl (by rw [hml]; rfl) (Steps.refl _) (argsL := [(.int x2)]) (rest := []) (lenOf own_pd0 rfl) rfl (by show 2 * 0 + _ ≤ _; exact Nat.le_of_eq rfl) (hb hby at_209) (fun _ _ => ⟨rfl, e72, (by decide : 3 + 0 ≤ _), (by decide : 166 + 0 ≤ _)⟩)
                dsimp only [Pt.U, Pt.locs, Pt.cells, Pt.slots] at X83 l83 y83 z83 st83 hQ83
                subst l83 y83 z83
                obtain ⟨rfl, N83q, K83, Fb83, Fl83, Vb83⟩ := hQ83
                have N83 := Fr.app N72 N83q
                have Ew := Ew.keep K83
                have Eb := Eb.keep K83
                have Vp := Vp.keep K83 (ninS ne_pp_b60 (ninS ne_pp_bf nin0))
                have Z84 := Nat.le_trans Z72 K83.1
                have pre85 : ∀ t, Steps p.tables e below (T83.setTop (mkF m 212 #[.val (.int x0), .val (.int x1), .val (.int x2), .val (.long x3), .second, .val (.int x4), .val (.int x5), .val (.int f0), .val (.int f1), .val (.int f2), .val (.int f3), .val (.int f4), .val (.int (x4 &&& (3 : Int32))), .val (.ref pp), .val (.int sz), .val (.ref b60), .unset, .unset, .unset, .unset, .unset, .unset] [])) t → Steps p.tables e below (s₁.setTop (entryFrame m #[(.int x0), (.int x1), (.int x2), (.long x3), (.int x4), (.int x5)] maxLocals)) t := fun t k => pre80 t (by
                  refine XS.ifNo X72.here hx rfl (hb hby at_203) rfl ((if0 _ _).trans (feq hc81).1) ?_
                  show Steps p.tables e below (T72.setTop (mkF m 206 #[.val (.int x0), .val (.int x1), .val (.int x2), .val (.long x3), .second, .val (.int x4), .val (.int x5), .val (.int f0), .val (.int f1), .val (.int f2), .val (.int f3), .val (.int f4), .val (.int (x4 &&& (3 : Int32))), .val (.ref pp), .val (.int sz), .val (.ref b60), .unset, .unset, .unset, .unset, .unset, .unset] [])) _
                  refine XS.aload X72.here hx rfl (hb hby at_206) rfl rfl ?_
                  show Steps p.tables e below (T72.setTop (mkF m 208 #[.val (.int x0), .val (.int x1), .val (.int x2), .val (.long x3), .second, .val (.int x4), .val (.int x5), .val (.int f0), .val (.int f1), .val (.int f2), .val (.int f3), .val (.int f4), .val (.int (x4 &&& (3 : Int32))), .val (.ref pp), .val (.int sz), .val (.ref b60), .unset, .unset, .unset, .unset, .unset, .unset] [(.ref b60)])) _
                  refine XS.iloadN X72.here hx rfl (hb hby at_208) rfl ?_
                  show Steps p.tables e below (T72.setTop (mkF m 209 #[.val (.int x0), .val (.int x1), .val (.int x2), .val (.long x3), .second, .val (.int x4), .val (.int x5), .val (.int f0), .val (.int f1), .val (.int f2), .val (.int f3), .val (.int f4), .val (.int (x4 &&& (3 : Int32))), .val (.ref pp), .val (.int sz), .val (.ref b60), .unset, .unset, .unset, .unset, .unset, .unset] [(.int x2), (.ref b60)])) _
                  refine st83.trans ?_
                  exact k)
                as_aux_lemma =>
                  exact ⟨T83, T83.heap, _, (D2 ++ own_l32 x2), (z2 + (4 : Int32)), X83.more (by decide) (by decide), rfl, N83, Z84, Ew, Fb83, Fl83, Vb83, Eb, Vp, (by rw [if_neg hc81]; first | done | rfl), (by rw [if_neg hc81]; first | done | rfl), (own_hzA hz2 (show (4 : Int32).toInt = ((own_l32 x2).length : Int) from rfl) (by have q_ := hb2_; show _ + (4 : Int) ≤ 1000; omega)), (by rw [List.length_append]; have q_ := hb2_; show _ + 4 ≤ 7; omega), fun t k => pre85 t k⟩
          as_aux_lemma =>
            obtain ⟨T86, h86, LL86, D4, z4, X86, e86, N86, Z86, Ew, Fb, Fl, Vb, Eb, Vp, hD4e, hz4e, hz4, hb4_, pre86⟩ : ∃ (T86 : State) (h86 : Heap) (LL86 : List Loc) (D4 : List Int32) (z4 : Int32), Stand p l e room_1 s m #[(.int x0), (.int x1), (.int x2), (.long x3), (.int x4), (.int x5)] below meth c T86 LL86 3 166 ∧ T86.heap = h86 ∧ Fr n0 LL86 ∧ n0 ≤ h86.size ∧ (Exa Z h86 b60 "com/example/vigilant_consumer/vigilantconsumer/ProtocolWriter") ∧ (Fld Z h86 b60 "com/example/vigilant_consumer/vigilantconsumer/ProtocolWriter" "bytes" "[B" (.ref bf)) ∧ (Fld Z h86 b60 "com/example/vigilant_consumer/vigilantconsumer/ProtocolWriter" "length" "I" (.int z4)) ∧ (Arv Z h86 bf kb .byte (64 : Int32) (List.map Value.int D4) (.int (0 : Int32))) ∧ (Exa Z h86 bf "[B") ∧ (Arv Z h86 pp kp .byte sz (List.map Value.int PP) (.int (0 : Int32))) ∧ (D4 = (D3 ++ (if f3 = (0 : Int32) then [] else own_l64 x3))) ∧ (z4 = (z3 + (if f3 = (0 : Int32) then (0 : Int32) else (8 : Int32)))) ∧ (z4.toInt = (D4.length : Int)) ∧ (D4.length ≤ 15) ∧ (∀ t, Steps p.tables e below (T86.setTop (mkF m 223 #[.val (.int x0), .val (.int x1), .val (.int x2), .val (.long x3), .second, .val (.int x4), .val (.int x5), .val (.int f0), .val (.int f1), .val (.int f2), .val (.int f3), .val (.int f4), .val (.int (x4 &&& (3 : Int32))), .val (.ref pp), .val (.int sz), .val (.ref b60), .unset, .unset, .unset, .unset, .unset, .unset] [])) t → Steps p.tables e below (s₁.setTop (entryFrame m #[(.int x0), (.int x1), (.int x2), (.long x3), (.int x4), (.int x5)] maxLocals)) t) := by
              have pre87 : ∀ t, Steps p.tables e below (T79.setTop (mkF m 214 #[.val (.int x0), .val (.int x1), .val (.int x2), .val (.long x3), .second, .val (.int x4), .val (.int x5), .val (.int f0), .val (.int f1), .val (.int f2), .val (.int f3), .val (.int f4), .val (.int (x4 &&& (3 : Int32))), .val (.ref pp), .val (.int sz), .val (.ref b60), .unset, .unset, .unset, .unset, .unset, .unset] [(.int f3)])) t → Steps p.tables e below (s₁.setTop (entryFrame m #[(.int x0), (.int x1), (.int x2), (.long x3), (.int x4), (.int x5)] maxLocals)) t := fun t k => pre79 t (by
                show Steps p.tables e below (T79.setTop (mkF m 212 #[.val (.int x0), .val (.int x1), .val (.int x2), .val (.long x3), .second, .val (.int x4), .val (.int x5), .val (.int f0), .val (.int f1), .val (.int f2), .val (.int f3), .val (.int f4), .val (.int (x4 &&& (3 : Int32))), .val (.ref pp), .val (.int sz), .val (.ref b60), .unset, .unset, .unset, .unset, .unset, .unset] [])) _
                refine XS.iload X79.here hx rfl (hb hby at_212) rfl ?_
                show Steps p.tables e below (T79.setTop (mkF m 214 #[.val (.int x0), .val (.int x1), .val (.int x2), .val (.long x3), .second, .val (.int x4), .val (.int x5), .val (.int f0), .val (.int f1), .val (.int f2), .val (.int f3), .val (.int f4), .val (.int (x4 &&& (3 : Int32))), .val (.ref pp), .val (.int sz), .val (.ref b60), .unset, .unset, .unset, .unset, .unset, .unset] [(.int f3)])) _
                exact k)
              by_cases hc88 : f3 = (0 : Int32)
              · skip
                as_aux_lemma =>
                  have pre89 : ∀ t, Steps p.tables e below (T79.setTop (mkF m 223 #[.val (.int x0), .val (.int x1), .val (.int x2), .val (.long x3), .second, .val (.int x4), .val (.int x5), .val (.int f0), .val (.int f1), .val (.int f2), .val (.int f3), .val (.int f4), .val (.int (x4 &&& (3 : Int32))), .val (.ref pp), .val (.int sz), .val (.ref b60), .unset, .unset, .unset, .unset, .unset, .unset] [])) t → Steps p.tables e below (s₁.setTop (entryFrame m #[(.int x0), (.int x1), (.int x2), (.long x3), (.int x4), (.int x5)] maxLocals)) t := fun t k => pre87 t (by
                    refine XS.ifYes X79.here hx rfl (pc0 := 214) (pc' := 223) rfl (hb hby at_214) rfl ((if0 _ _).trans (teq hc88).1) (by decide) (by decide) ?_
                    exact k)
                  as_aux_lemma =>
                    exact ⟨T79, h79, _, D3, z3, X79.more (by decide) (by decide), e79, N79, Z79, Ew, Fb, Fl, Vb, Eb, Vp, (by rw [if_pos hc88, List.append_nil]), (by rw [if_pos hc88, Int32.add_zero]), hz3, (Nat.le_trans hb3_ (by decide)), fun t k => pre89 t k⟩
              · skip
                as_aux_lemma =>
                  obtain ⟨cq90, kq90, q90a, q90b, q90c⟩ := isOf hZ e79 Ew
                  obtain ⟨_, _, ⟨T90, L90, k90, n90⟩, -, X90, ⟨Lc90, hQ90, l90, y90, z90⟩, st90⟩ := X79.virtualBack hx (y := (⟨"com/example/vigilant_consumer/vigilantconsumer/ProtocolWriter", "int64", "(J)V"⟩ : MethodName)) (z := (⟨"com/example/vigilant_consumer/vigilantconsumer/ProtocolWriter", "int64", "(J)V"⟩ : MethodName)) hown (mvT hZ (hw _ (List.mem_of_getElem? (i := 50) rfl))) (mvT hZ (hw _ (List.mem_of_getElem? (i := 51) rfl))) (notFace_of_selects (args := #[]) (mvT hZ (hw _ (List.mem_of_getElem? (i := 53) rfl)))) (mvT hZ (hw _ (List.mem_of_getElem? (i := 53) rfl))) (mvT hZ (hw _ (List.mem_of_getElem? (i := 52) rfl))) (by decide) (backOf (W := 0) (own_int64N l Z a0 hw [] b60 x3 bf kb (64 : Int32) z3 D3 h79 n0 Z79 Ew Fb Fl Vb g_b60 g_bf hz3 (by have q_ := hb3_; show _ + (8 : Int) ≤ (64 : Int); omega) (by decide)) hZ (hw _ (List.mem_of_getElem? (i := 54) rfl)) (hw _ (List.mem_of_getElem? (i := 3) rfl)) (by decide) (by decide)) q90a q90c (g := (mkF m 220 #[.val (.int x0), .val (.int x1), .val (.int x2), .val (.long x3), .second, .val (.int x4), .val (.int x5), .val (.int f0), .val (.int f1), .val (.int f2), .val (.int f3), .val (.int f4), .val (.int (x4 &&& (3 : Int32))), .val (.ref pp), .val (.int sz), .val (.ref b60), .unset, .unset, .unset, .unset, .unset, .unset] [(.long x3), (.ref b60)])) rfl (by rw [hml]; rfl) (Steps.refl _) (argsL := [(.long x3)]) (rest := []) (lenOf own_pd6 rfl) rfl (by show 2 * 0 + _ ≤ _; exact Nat.le_of_eq rfl) (hb hby at_220) (fun _ _ => ⟨rfl, e79, (by decide : 3 + 0 ≤ _), (by decide : 166 + 0 ≤ _)⟩)
                  dsimp only [Pt.U, Pt.locs, Pt.cells, Pt.slots] at X90 l90 y90 z90 st90 hQ90
                  subst l90 y90 z90
                  obtain ⟨rfl, N90q, K90, Fb90, Fl90, Vb90⟩ := hQ90
                  have N90 := Fr.app N79 N90q
                  have Ew := Ew.keep K90
                  have Eb := Eb.keep K90
                  have Vp := Vp.keep K90 (ninS ne_pp_b60 (ninS ne_pp_bf nin0))
                  have Z91 := Nat.le_trans Z79 K90.1
                  have pre92 : ∀ t, Steps p.tables e below (T90.setTop (mkF m 223 #[.val (.int x0), .val (.int x1), .val (.int x2), .val (.long x3), .second, .val (.int x4), .val (.int x5), .val (.int f0), .val (.int f1), .val (.int f2), .val (.int f3), .val (.int f4), .val (.int (x4 &&& (3 : Int32))), .val (.ref pp), .val (.int sz), .val (.ref b60), .unset, .unset, .unset, .unset, .unset, .unset] [])) t → Steps p.tables e below (s₁.setTop (entryFrame m #[(.int x0), (.int x1), (.int x2), (.long x3), (.int x4), (.int x5)] maxLocals)) t := fun t k => pre87 t (by
                    refine XS.ifNo X79.here hx rfl (hb hby at_214) rfl ((if0 _ _).trans (feq hc88).1) ?_
                    show Steps p.tables e below (T79.setTop (mkF m 217 #[.val (.int x0), .val (.int x1), .val (.int x2), .val (.long x3), .second, .val (.int x4), .val (.int x5), .val (.int f0), .val (.int f1), .val (.int f2), .val (.int f3), .val (.int f4), .val (.int (x4 &&& (3 : Int32))), .val (.ref pp), .val (.int sz), .val (.ref b60), .unset, .unset, .unset, .unset, .unset, .unset] [])) _
                    refine XS.aload X79.here hx rfl (hb hby at_217) rfl rfl ?_
                    show Steps p.tables e below (T79.setTop (mkF m 219 #[.val (.int x0), .val (.int x1), .val (.int x2), .val (.long x3), .second, .val (.int x4), .val (.int x5), .val (.int f0), .val (.int f1), .val (.int f2), .val (.int f3), .val (.int f4), .val (.int (x4 &&& (3 : Int32))), .val (.ref pp), .val (.int sz), .val (.ref b60), .unset, .unset, .unset, .unset, .unset, .unset] [(.ref b60)])) _
                    refine XS.lloadN X79.here hx rfl (hb hby at_219) rfl ?_
                    show Steps p.tables e below (T79.setTop (mkF m 220 #[.val (.int x0), .val (.int x1), .val (.int x2), .val (.long x3), .second, .val (.int x4), .val (.int x5), .val (.int f0), .val (.int f1), .val (.int f2), .val (.int f3), .val (.int f4), .val (.int (x4 &&& (3 : Int32))), .val (.ref pp), .val (.int sz), .val (.ref b60), .unset, .unset, .unset, .unset, .unset, .unset] [(.long x3), (.ref b60)])) _
                    refine st90.trans ?_
                    exact k)
                  as_aux_lemma =>
                    exact ⟨T90, T90.heap, _, (D3 ++ own_l64 x3), (z3 + (8 : Int32)), X90.more (by decide) (by decide), rfl, N90, Z91, Ew, Fb90, Fl90, Vb90, Eb, Vp, (by rw [if_neg hc88]; first | done | rfl), (by rw [if_neg hc88]; first | done | rfl), (own_hzA hz3 (show (8 : Int32).toInt = ((own_l64 x3).length : Int) from rfl) (by have q_ := hb3_; show _ + (8 : Int) ≤ 1000; omega)), (by rw [List.length_append]; have q_ := hb3_; show _ + 8 ≤ 15; omega), fun t k => pre92 t k⟩
            as_aux_lemma =>
              have hPl : (PP.length : Int) ≤ 100 := by rw [← hzp]; rcases hsz with q_ | q_ | q_ | q_ <;> rw [q_] <;> decide
              have hlE : (own_l32 sz ++ PP).length = 4 + PP.length := by rw [List.length_append]; rfl
              have hzE : ((4 : Int32) + sz).toInt = ((own_l32 sz ++ PP).length : Int) := own_hzA (D := own_l32 sz) rfl hzp (by show (4 : Int) + _ ≤ 1000; omega)
              obtain ⟨T93, h93, LL93, bb, kk, cc, D5, z5, X93, e93, N93, Z93, Ew, Fb, Fl, Vb, Eb, gbb, hcc, hcl, hD5e, hz5e, hz5, hb5_, pre93⟩ : ∃ (T93 : State) (h93 : Heap) (LL93 : List Loc) (bb : Addr) (kk : ClassId) (cc : Int32) (D5 : List Int32) (z5 : Int32), Stand p l e room_1 s m #[(.int x0), (.int x1), (.int x2), (.long x3), (.int x4), (.int x5)] below meth c T93 LL93 4 294 ∧ T93.heap = h93 ∧ Fr n0 LL93 ∧ n0 ≤ h93.size ∧ (Exa Z h93 b60 "com/example/vigilant_consumer/vigilantconsumer/ProtocolWriter") ∧ (Fld Z h93 b60 "com/example/vigilant_consumer/vigilantconsumer/ProtocolWriter" "bytes" "[B" (.ref bb)) ∧ (Fld Z h93 b60 "com/example/vigilant_consumer/vigilantconsumer/ProtocolWriter" "length" "I" (.int z5)) ∧ (Arv Z h93 bb kk .byte cc (List.map Value.int D5) (.int (0 : Int32))) ∧ (Exa Z h93 bb "[B") ∧ (n0 ≤ bb) ∧ (cc = 64 ∨ cc = 128) ∧ ((D5.length : Int) ≤ cc.toInt) ∧ (D5 = (D4 ++ (if f4 = (0 : Int32) then [] else (own_l32 sz ++ PP)))) ∧ (z5 = (z4 + (if f4 = (0 : Int32) then (0 : Int32) else ((4 : Int32) + sz)))) ∧ (z5.toInt = (D5.length : Int)) ∧ (D5.length ≤ 119) ∧ (∀ t, Steps p.tables e below (T93.setTop (mkF m 235 #[.val (.int x0), .val (.int x1), .val (.int x2), .val (.long x3), .second, .val (.int x4), .val (.int x5), .val (.int f0), .val (.int f1), .val (.int f2), .val (.int f3), .val (.int f4), .val (.int (x4 &&& (3 : Int32))), .val (.ref pp), .val (.int sz), .val (.ref b60), .unset, .unset, .unset, .unset, .unset, .unset] [])) t → Steps p.tables e below (s₁.setTop (entryFrame m #[(.int x0), (.int x1), (.int x2), (.long x3), (.int x4), (.int x5)] maxLocals)) t) := by
                have pre94 : ∀ t, Steps p.tables e below (T86.setTop (mkF m 225 #[.val (.int x0), .val (.int x1), .val (.int x2), .val (.long x3), .second, .val (.int x4), .val (.int x5), .val (.int f0), .val (.int f1), .val (.int f2), .val (.int f3), .val (.int f4), .val (.int (x4 &&& (3 : Int32))), .val (.ref pp), .val (.int sz), .val (.ref b60), .unset, .unset, .unset, .unset, .unset, .unset] [(.int f4)])) t → Steps p.tables e below (s₁.setTop (entryFrame m #[(.int x0), (.int x1), (.int x2), (.long x3), (.int x4), (.int x5)] maxLocals)) t := fun t k => pre86 t (by
                  show Steps p.tables e below (T86.setTop (mkF m 223 #[.val (.int x0), .val (.int x1), .val (.int x2), .val (.long x3), .second, .val (.int x4), .val (.int x5), .val (.int f0), .val (.int f1), .val (.int f2), .val (.int f3), .val (.int f4), .val (.int (x4 &&& (3 : Int32))), .val (.ref pp), .val (.int sz), .val (.ref b60), .unset, .unset, .unset, .unset, .unset, .unset] [])) _
                  refine XS.iload X86.here hx rfl (hb hby at_223) rfl ?_
                  show Steps p.tables e below (T86.setTop (mkF m 225 #[.val (.int x0), .val (.int x1), .val (.int x2), .val (.long x3), .second, .val (.int x4), .val (.int x5), .val (.int f0), .val (.int f1), .val (.int f2), .val (.int f3), .val (.int f4), .val (.int (x4 &&& (3 : Int32))), .val (.ref pp), .val (.int sz), .val (.ref b60), .unset, .unset, .unset, .unset, .unset, .unset] [(.int f4)])) _
                  exact k)
                by_cases hc95 : f4 = (0 : Int32)
                · skip
                  as_aux_lemma =>
                    have pre96 : ∀ t, Steps p.tables e below (T86.setTop (mkF m 235 #[.val (.int x0), .val (.int x1), .val (.int x2), .val (.long x3), .second, .val (.int x4), .val (.int x5), .val (.int f0), .val (.int f1), .val (.int f2), .val (.int f3), .val (.int f4), .val (.int (x4 &&& (3 : Int32))), .val (.ref pp), .val (.int sz), .val (.ref b60), .unset, .unset, .unset, .unset, .unset, .unset] [])) t → Steps p.tables e below (s₁.setTop (entryFrame m #[(.int x0), (.int x1), (.int x2), (.long x3), (.int x4), (.int x5)] maxLocals)) t := fun t k => pre94 t (by
                      refine XS.ifYes X86.here hx rfl (pc0 := 225) (pc' := 235) rfl (hb hby at_225) rfl ((if0 _ _).trans (teq hc95).1) (by decide) (by decide) ?_
                      exact k)
                    as_aux_lemma =>
                      exact ⟨T86, h86, _, bf, kb, (64 : Int32), D4, z4, X86.more (by decide) (by decide), e86, N86, Z86, Ew, Fb, Fl, Vb, Eb, g_bf, (Or.inl rfl), (by have q_ := hb4_; show _ ≤ (64 : Int); omega), (by rw [if_pos hc95, List.append_nil]), (by rw [if_pos hc95, Int32.add_zero]), hz4, (Nat.le_trans hb4_ (by decide)), fun t k => pre96 t k⟩
                · skip
                  as_aux_lemma =>
                    obtain ⟨cq97, kq97, q97a, q97b, q97c⟩ := isOf hZ e86 Ew
                    obtain ⟨_, _, ⟨T97, L97, k97, n97⟩, -, X97, ⟨Lc97, hQ97, l97, y97, z97⟩, st97⟩ := X86.virtualBack hx (y := (⟨"com/example/vigilant_consumer/vigilantconsumer/ProtocolWriter", "bytes", "([B)V"⟩ : MethodName)) (z := (⟨"com/example/vigilant_consumer/vigilantconsumer/ProtocolWriter", "bytes", "([B)V"⟩ : MethodName)) hown (mvT hZ (hw _ (List.mem_of_getElem? (i := 65) rfl))) (mvT hZ (hw _ (List.mem_of_getElem? (i := 66) rfl))) (notFace_of_selects (args := #[]) (mvT hZ (hw _ (List.mem_of_getElem? (i := 68) rfl)))) (mvT hZ (hw _ (List.mem_of_getElem? (i := 68) rfl))) (mvT hZ (hw _ (List.mem_of_getElem? (i := 67) rfl))) (by decide) (backOf (W := 0) (own_bytes l Z a0 hw [] b60 pp bf kb (64 : Int32) z4 D4 kp sz PP h86 n0 Z86 Ew Fb Fl Vb Eb g_b60 g_bf hz4 (Or.inl rfl) (by have q_ := hb4_; have q2_ := hPl; show _ ≤ (64 : Int); omega) Vp hzp ne_pp_bf (by have q_ := hb4_; have q2_ := hPl; show _ + (4 : Int) ≤ (64 : Int); omega) (by have q_ := hb4_; have q2_ := hPl; omega)) hZ (hw _ (List.mem_of_getElem? (i := 69) rfl)) (hw _ (List.mem_of_getElem? (i := 3) rfl)) (by decide) (by decide)) q97a q97c (g := (mkF m 232 #[.val (.int x0), .val (.int x1), .val (.int x2), .val (.long x3), .second, .val (.int x4), .val (.int x5), .val (.int f0), .val (.int f1), .val (.int f2), .val (.int f3), .val (.int f4), .val (.int (x4 &&& (3 : Int32))), .val (.ref pp), .val (.int sz), .val (.ref b60), .unset, .unset, .unset, .unset, .unset, .unset] [(.ref pp), (.ref b60)])) rfl (by rw [hml]; rfl) (Steps.refl _) (argsL := [(.ref pp)]) (rest := []) (lenOf own_pd3 rfl) rfl (by show 2 * 0 + _ ≤ _; exact Nat.le_of_eq rfl) (hb hby at_232) (fun _ _ => ⟨rfl, e86, (by decide : 3 + 1 ≤ _), (by decide : 166 + 128 ≤ _)⟩)
                    dsimp only [Pt.U, Pt.locs, Pt.cells, Pt.slots] at X97 l97 y97 z97 st97 hQ97
                    subst l97 y97 z97
                    obtain ⟨b97, kq97, cg97, rfl, N97q, K97, Fb97, Fl97, V97, Q97, hb97, hcc97, hnd97⟩ := hQ97
                    have g_b97 : n0 ≤ b97 := hb97.elim (fun q_ => by rw [q_]; exact g_bf) (fun q_ => Nat.le_trans Z86 q_)
                    have N97 := Fr.app N86 N97q
                    have Ew := Ew.keep K97
                    have Eb := Eb.keep K97
                    have Vp := Vp.keep K97 (ninS ne_pp_b60 (ninS ne_pp_bf nin0))
                    have Z98 := Nat.le_trans Z86 K97.1
                    have pre99 : ∀ t, Steps p.tables e below (T97.setTop (mkF m 235 #[.val (.int x0), .val (.int x1), .val (.int x2), .val (.long x3), .second, .val (.int x4), .val (.int x5), .val (.int f0), .val (.int f1), .val (.int f2), .val (.int f3), .val (.int f4), .val (.int (x4 &&& (3 : Int32))), .val (.ref pp), .val (.int sz), .val (.ref b60), .unset, .unset, .unset, .unset, .unset, .unset] [])) t → Steps p.tables e below (s₁.setTop (entryFrame m #[(.int x0), (.int x1), (.int x2), (.long x3), (.int x4), (.int x5)] maxLocals)) t := fun t k => pre94 t (by
                      refine XS.ifNo X86.here hx rfl (hb hby at_225) rfl ((if0 _ _).trans (feq hc95).1) ?_
                      show Steps p.tables e below (T86.setTop (mkF m 228 #[.val (.int x0), .val (.int x1), .val (.int x2), .val (.long x3), .second, .val (.int x4), .val (.int x5), .val (.int f0), .val (.int f1), .val (.int f2), .val (.int f3), .val (.int f4), .val (.int (x4 &&& (3 : Int32))), .val (.ref pp), .val (.int sz), .val (.ref b60), .unset, .unset, .unset, .unset, .unset, .unset] [])) _
                      refine XS.aload X86.here hx rfl (hb hby at_228) rfl rfl ?_
                      show Steps p.tables e below (T86.setTop (mkF m 230 #[.val (.int x0), .val (.int x1), .val (.int x2), .val (.long x3), .second, .val (.int x4), .val (.int x5), .val (.int f0), .val (.int f1), .val (.int f2), .val (.int f3), .val (.int f4), .val (.int (x4 &&& (3 : Int32))), .val (.ref pp), .val (.int sz), .val (.ref b60), .unset, .unset, .unset, .unset, .unset, .unset] [(.ref b60)])) _
                      refine XS.aload X86.here hx rfl (hb hby at_230) rfl rfl ?_
                      show Steps p.tables e below (T86.setTop (mkF m 232 #[.val (.int x0), .val (.int x1), .val (.int x2), .val (.long x3), .second, .val (.int x4), .val (.int x5), .val (.int f0), .val (.int f1), .val (.int f2), .val (.int f3), .val (.int f4), .val (.int (x4 &&& (3 : Int32))), .val (.ref pp), .val (.int sz), .val (.ref b60), .unset, .unset, .unset, .unset, .unset, .unset] [(.ref pp), (.ref b60)])) _
                      refine st97.trans ?_
                      exact k)
                    as_aux_lemma =>
                      exact ⟨T97, T97.heap, _, b97, kq97, cg97, (D4 ++ (own_l32 sz ++ PP)), (z4 + ((4 : Int32) + sz)), X97.more (by decide) (by decide), rfl, N97, Z98, Ew, Fb97, Fl97, V97, Q97, g_b97, hcc97, hnd97, (by rw [if_neg hc95]; first | done | rfl), (by rw [if_neg hc95]; first | done | rfl), (own_hzA hz4 hzE (by have q_ := hb4_; rw [hlE]; omega)), (by rw [List.length_append]; have q_ := hb4_; have q2_ := hlE; omega), fun t k => pre99 t k⟩
              as_aux_lemma =>
                obtain ⟨cq100, kq100, q100a, q100b, q100c⟩ := isOf hZ e93 Ew
                obtain ⟨_, _, ⟨T100, L100, k100, n100⟩, -, X100, ⟨Lc100, hQ100, l100, y100, z100⟩, st100⟩ := X93.virtualBack hx (y := (⟨"com/example/vigilant_consumer/vigilantconsumer/ProtocolWriter", "toByteArray", "()[B"⟩ : MethodName)) (z := (⟨"com/example/vigilant_consumer/vigilantconsumer/ProtocolWriter", "toByteArray", "()[B"⟩ : MethodName)) hown (mvT hZ (hw _ (List.mem_of_getElem? (i := 12) rfl))) (mvT hZ (hw _ (List.mem_of_getElem? (i := 13) rfl))) (notFace_of_selects (args := #[]) (mvT hZ (hw _ (List.mem_of_getElem? (i := 15) rfl)))) (mvT hZ (hw _ (List.mem_of_getElem? (i := 15) rfl))) (mvT hZ (hw _ (List.mem_of_getElem? (i := 14) rfl))) (by decide) (backOf (W := 0) (own_toB l Z a0 hw [] b60 bb kk cc z5 D5 h93 n0 Z93 Fb Fl Vb Eb hz5 hcl (own_c64 hcc).2) hZ (hw _ (List.mem_of_getElem? (i := 16) rfl)) (hw _ (List.mem_of_getElem? (i := 3) rfl)) (by decide) (by decide)) q100a q100c (g := (mkF m 237 #[.val (.int x0), .val (.int x1), .val (.int x2), .val (.long x3), .second, .val (.int x4), .val (.int x5), .val (.int f0), .val (.int f1), .val (.int f2), .val (.int f3), .val (.int f4), .val (.int (x4 &&& (3 : Int32))), .val (.ref pp), .val (.int sz), .val (.ref b60), .unset, .unset, .unset, .unset, .unset, .unset] [(.ref b60)])) rfl (by rw [hml]; rfl) (Steps.refl _) (argsL := []) (rest := []) (lenOf own_pd7 rfl) rfl (by show 2 * 0 + _ ≤ _; exact Nat.le_of_eq rfl) (hb hby at_237) (fun _ _ => ⟨rfl, e93, (by decide : 4 + 1 ≤ _), (by decide : 294 + 128 ≤ _)⟩)
                dsimp only [Pt.U, Pt.locs, Pt.cells, Pt.slots] at X100 l100 y100 z100 st100 hQ100
                subst l100 y100 z100
                obtain ⟨b100, kq100, rfl, N100q, K100, sz100, V100, Q100⟩ := hQ100
                have N100 := Fr.app N93 N100q
                have g_b100 : n0 ≤ b100 := Nat.le_trans Z93 sz100
                have ne_b60_b100 : b60 ≠ b100 := Nat.ne_of_lt (Nat.lt_of_lt_of_le Ew.lt sz100)
                have ne_bb_b100 : bb ≠ b100 := Nat.ne_of_lt (Nat.lt_of_lt_of_le Vb.lt sz100)
                have Ew := Ew.keep K100
                have Fb := Fb.keep K100 nin0
                have Fl := Fl.keep K100 nin0
                have Vb := Vb.keep K100 nin0
                have Eb := Eb.keep K100
                have Z101 := Nat.le_trans Z93 K100.1
                have pre103 : ∀ t, Steps p.tables e below (T100.setTop (mkF m 252 #[.val (.int x0), .val (.int x1), .val (.int x2), .val (.long x3), .second, .val (.int x4), .val (.int x5), .val (.int f0), .val (.int f1), .val (.int f2), .val (.int f3), .val (.int f4), .val (.int (x4 &&& (3 : Int32))), .val (.ref pp), .val (.int sz), .val (.ref b60), .val (.ref b100), .unset, .unset, .unset, .unset, .unset] [(.int (if ¬ (f0 = (0 : Int32)) then (1 : Int32) else (0 : Int32)))])) t → Steps p.tables e below (s₁.setTop (entryFrame m #[(.int x0), (.int x1), (.int x2), (.long x3), (.int x4), (.int x5)] maxLocals)) t := fun t k => pre93 t (by
                  show Steps p.tables e below (T93.setTop (mkF m 235 #[.val (.int x0), .val (.int x1), .val (.int x2), .val (.long x3), .second, .val (.int x4), .val (.int x5), .val (.int f0), .val (.int f1), .val (.int f2), .val (.int f3), .val (.int f4), .val (.int (x4 &&& (3 : Int32))), .val (.ref pp), .val (.int sz), .val (.ref b60), .unset, .unset, .unset, .unset, .unset, .unset] [])) _
                  refine XS.aload X93.here hx rfl (hb hby at_235) rfl rfl ?_
                  show Steps p.tables e below (T93.setTop (mkF m 237 #[.val (.int x0), .val (.int x1), .val (.int x2), .val (.long x3), .second, .val (.int x4), .val (.int x5), .val (.int f0), .val (.int f1), .val (.int f2), .val (.int f3), .val (.int f4), .val (.int (x4 &&& (3 : Int32))), .val (.ref pp), .val (.int sz), .val (.ref b60), .unset, .unset, .unset, .unset, .unset, .unset] [(.ref b60)])) _
                  refine st100.trans ?_
                  show Steps p.tables e below (T100.setTop (mkF m 240 #[.val (.int x0), .val (.int x1), .val (.int x2), .val (.long x3), .second, .val (.int x4), .val (.int x5), .val (.int f0), .val (.int f1), .val (.int f2), .val (.int f3), .val (.int f4), .val (.int (x4 &&& (3 : Int32))), .val (.ref pp), .val (.int sz), .val (.ref b60), .unset, .unset, .unset, .unset, .unset, .unset] [(.ref b100)])) _
                  refine XS.astore X100.here hx rfl (hb hby at_240) rfl rfl (l' := #[.val (.int x0), .val (.int x1), .val (.int x2), .val (.long x3), .second, .val (.int x4), .val (.int x5), .val (.int f0), .val (.int f1), .val (.int f2), .val (.int f3), .val (.int f4), .val (.int (x4 &&& (3 : Int32))), .val (.ref pp), .val (.int sz), .val (.ref b60), .val (.ref b100), .unset, .unset, .unset, .unset, .unset]) rfl ?_
                  show Steps p.tables e below (T100.setTop (mkF m 242 #[.val (.int x0), .val (.int x1), .val (.int x2), .val (.long x3), .second, .val (.int x4), .val (.int x5), .val (.int f0), .val (.int f1), .val (.int f2), .val (.int f3), .val (.int f4), .val (.int (x4 &&& (3 : Int32))), .val (.ref pp), .val (.int sz), .val (.ref b60), .val (.ref b100), .unset, .unset, .unset, .unset, .unset] [])) _
                  refine XS.iload X100.here hx rfl (hb hby at_242) rfl ?_
                  show Steps p.tables e below (T100.setTop (mkF m 244 #[.val (.int x0), .val (.int x1), .val (.int x2), .val (.long x3), .second, .val (.int x4), .val (.int x5), .val (.int f0), .val (.int f1), .val (.int f2), .val (.int f3), .val (.int f4), .val (.int (x4 &&& (3 : Int32))), .val (.ref pp), .val (.int sz), .val (.ref b60), .val (.ref b100), .unset, .unset, .unset, .unset, .unset] [(.int f0)])) _
                  by_cases hc102 : f0 = (0 : Int32)
                  · skip
                    refine XS.ifYes X100.here hx rfl (pc0 := 244) (pc' := 251) rfl (hb hby at_244) rfl ((if0 _ _).trans (teq hc102).1) (by decide) (by decide) ?_
                    show Steps p.tables e below (T100.setTop (mkF m 251 #[.val (.int x0), .val (.int x1), .val (.int x2), .val (.long x3), .second, .val (.int x4), .val (.int x5), .val (.int f0), .val (.int f1), .val (.int f2), .val (.int f3), .val (.int f4), .val (.int (x4 &&& (3 : Int32))), .val (.ref pp), .val (.int sz), .val (.ref b60), .val (.ref b100), .unset, .unset, .unset, .unset, .unset] [])) _
                    refine XS.iconst X100.here hx rfl (hb hby at_251) ?_
                    exact castTop (congrArg (fun z_ => (mkF m 252 #[.val (.int x0), .val (.int x1), .val (.int x2), .val (.long x3), .second, .val (.int x4), .val (.int x5), .val (.int f0), .val (.int f1), .val (.int f2), .val (.int f3), .val (.int f4), .val (.int (x4 &&& (3 : Int32))), .val (.ref pp), .val (.int sz), .val (.ref b60), .val (.ref b100), .unset, .unset, .unset, .unset, .unset] [(.int z_)])) (show (0 : Int32) = (if ¬ (f0 = (0 : Int32)) then (1 : Int32) else (0 : Int32)) from by rw [if_neg (not_not_intro hc102)])) k
                  · skip
                    refine XS.ifNo X100.here hx rfl (hb hby at_244) rfl ((if0 _ _).trans (feq hc102).1) ?_
                    show Steps p.tables e below (T100.setTop (mkF m 247 #[.val (.int x0), .val (.int x1), .val (.int x2), .val (.long x3), .second, .val (.int x4), .val (.int x5), .val (.int f0), .val (.int f1), .val (.int f2), .val (.int f3), .val (.int f4), .val (.int (x4 &&& (3 : Int32))), .val (.ref pp), .val (.int sz), .val (.ref b60), .val (.ref b100), .unset, .unset, .unset, .unset, .unset] [])) _
                    refine XS.iconst X100.here hx rfl (hb hby at_247) ?_
                    show Steps p.tables e below (T100.setTop (mkF m 248 #[.val (.int x0), .val (.int x1), .val (.int x2), .val (.long x3), .second, .val (.int x4), .val (.int x5), .val (.int f0), .val (.int f1), .val (.int f2), .val (.int f3), .val (.int f4), .val (.int (x4 &&& (3 : Int32))), .val (.ref pp), .val (.int sz), .val (.ref b60), .val (.ref b100), .unset, .unset, .unset, .unset, .unset] [(.int (1 : Int32))])) _
                    refine XS.goto X100.here hx rfl (pc0 := 248) (pc' := 252) rfl (hb hby at_248) (by decide) (by decide) ?_
                    exact castTop (congrArg (fun z_ => (mkF m 252 #[.val (.int x0), .val (.int x1), .val (.int x2), .val (.long x3), .second, .val (.int x4), .val (.int x5), .val (.int f0), .val (.int f1), .val (.int f2), .val (.int f3), .val (.int f4), .val (.int (x4 &&& (3 : Int32))), .val (.ref pp), .val (.int sz), .val (.ref b60), .val (.ref b100), .unset, .unset, .unset, .unset, .unset] [(.int z_)])) (show (1 : Int32) = (if ¬ (f0 = (0 : Int32)) then (1 : Int32) else (0 : Int32)) from by rw [if_pos hc102])) k)
                as_aux_lemma =>
                  have pre105 : ∀ t, Steps p.tables e below (T100.setTop (mkF m 262 #[.val (.int x0), .val (.int x1), .val (.int x2), .val (.long x3), .second, .val (.int x4), .val (.int x5), .val (.int f0), .val (.int f1), .val (.int f2), .val (.int f3), .val (.int f4), .val (.int (x4 &&& (3 : Int32))), .val (.ref pp), .val (.int sz), .val (.ref b60), .val (.ref b100), .unset, .unset, .unset, .unset, .unset] [(.int (if f1 = (0 : Int32) then (0 : Int32) else (2 : Int32))), (.int (if ¬ (f0 = (0 : Int32)) then (1 : Int32) else (0 : Int32)))])) t → Steps p.tables e below (s₁.setTop (entryFrame m #[(.int x0), (.int x1), (.int x2), (.long x3), (.int x4), (.int x5)] maxLocals)) t := fun t k => pre103 t (by
                    show Steps p.tables e below (T100.setTop (mkF m 252 #[.val (.int x0), .val (.int x1), .val (.int x2), .val (.long x3), .second, .val (.int x4), .val (.int x5), .val (.int f0), .val (.int f1), .val (.int f2), .val (.int f3), .val (.int f4), .val (.int (x4 &&& (3 : Int32))), .val (.ref pp), .val (.int sz), .val (.ref b60), .val (.ref b100), .unset, .unset, .unset, .unset, .unset] [(.int (if ¬ (f0 = (0 : Int32)) then (1 : Int32) else (0 : Int32)))])) _
                    refine XS.iload X100.here hx rfl (hb hby at_252) rfl ?_
                    show Steps p.tables e below (T100.setTop (mkF m 254 #[.val (.int x0), .val (.int x1), .val (.int x2), .val (.long x3), .second, .val (.int x4), .val (.int x5), .val (.int f0), .val (.int f1), .val (.int f2), .val (.int f3), .val (.int f4), .val (.int (x4 &&& (3 : Int32))), .val (.ref pp), .val (.int sz), .val (.ref b60), .val (.ref b100), .unset, .unset, .unset, .unset, .unset] [(.int f1), (.int (if ¬ (f0 = (0 : Int32)) then (1 : Int32) else (0 : Int32)))])) _
                    by_cases hc104 : f1 = (0 : Int32)
                    · skip
                      refine XS.ifYes X100.here hx rfl (pc0 := 254) (pc' := 261) rfl (hb hby at_254) rfl ((if0 _ _).trans (teq hc104).1) (by decide) (by decide) ?_
                      show Steps p.tables e below (T100.setTop (mkF m 261 #[.val (.int x0), .val (.int x1), .val (.int x2), .val (.long x3), .second, .val (.int x4), .val (.int x5), .val (.int f0), .val (.int f1), .val (.int f2), .val (.int f3), .val (.int f4), .val (.int (x4 &&& (3 : Int32))), .val (.ref pp), .val (.int sz), .val (.ref b60), .val (.ref b100), .unset, .unset, .unset, .unset, .unset] [(.int (if ¬ (f0 = (0 : Int32)) then (1 : Int32) else (0 : Int32)))])) _
                      refine XS.iconst X100.here hx rfl (hb hby at_261) ?_
                      exact castTop (congrArg (fun z_ => (mkF m 262 #[.val (.int x0), .val (.int x1), .val (.int x2), .val (.long x3), .second, .val (.int x4), .val (.int x5), .val (.int f0), .val (.int f1), .val (.int f2), .val (.int f3), .val (.int f4), .val (.int (x4 &&& (3 : Int32))), .val (.ref pp), .val (.int sz), .val (.ref b60), .val (.ref b100), .unset, .unset, .unset, .unset, .unset] [(.int z_), (.int (if ¬ (f0 = (0 : Int32)) then (1 : Int32) else (0 : Int32)))])) (show (0 : Int32) = (if f1 = (0 : Int32) then (0 : Int32) else (2 : Int32)) from by rw [if_pos hc104])) k
                    · skip
                      refine XS.ifNo X100.here hx rfl (hb hby at_254) rfl ((if0 _ _).trans (feq hc104).1) ?_
                      show Steps p.tables e below (T100.setTop (mkF m 257 #[.val (.int x0), .val (.int x1), .val (.int x2), .val (.long x3), .second, .val (.int x4), .val (.int x5), .val (.int f0), .val (.int f1), .val (.int f2), .val (.int f3), .val (.int f4), .val (.int (x4 &&& (3 : Int32))), .val (.ref pp), .val (.int sz), .val (.ref b60), .val (.ref b100), .unset, .unset, .unset, .unset, .unset] [(.int (if ¬ (f0 = (0 : Int32)) then (1 : Int32) else (0 : Int32)))])) _
                      refine XS.iconst X100.here hx rfl (hb hby at_257) ?_
                      show Steps p.tables e below (T100.setTop (mkF m 258 #[.val (.int x0), .val (.int x1), .val (.int x2), .val (.long x3), .second, .val (.int x4), .val (.int x5), .val (.int f0), .val (.int f1), .val (.int f2), .val (.int f3), .val (.int f4), .val (.int (x4 &&& (3 : Int32))), .val (.ref pp), .val (.int sz), .val (.ref b60), .val (.ref b100), .unset, .unset, .unset, .unset, .unset] [(.int (2 : Int32)), (.int (if ¬ (f0 = (0 : Int32)) then (1 : Int32) else (0 : Int32)))])) _
                      refine XS.goto X100.here hx rfl (pc0 := 258) (pc' := 262) rfl (hb hby at_258) (by decide) (by decide) ?_
                      exact castTop (congrArg (fun z_ => (mkF m 262 #[.val (.int x0), .val (.int x1), .val (.int x2), .val (.long x3), .second, .val (.int x4), .val (.int x5), .val (.int f0), .val (.int f1), .val (.int f2), .val (.int f3), .val (.int f4), .val (.int (x4 &&& (3 : Int32))), .val (.ref pp), .val (.int sz), .val (.ref b60), .val (.ref b100), .unset, .unset, .unset, .unset, .unset] [(.int z_), (.int (if ¬ (f0 = (0 : Int32)) then (1 : Int32) else (0 : Int32)))])) (show (2 : Int32) = (if f1 = (0 : Int32) then (0 : Int32) else (2 : Int32)) from by rw [if_neg hc104])) k)
                  as_aux_lemma =>
                    have pre107 : ∀ t, Steps p.tables e below (T100.setTop (mkF m 273 #[.val (.int x0), .val (.int x1), .val (.int x2), .val (.long x3), .second, .val (.int x4), .val (.int x5), .val (.int f0), .val (.int f1), .val (.int f2), .val (.int f3), .val (.int f4), .val (.int (x4 &&& (3 : Int32))), .val (.ref pp), .val (.int sz), .val (.ref b60), .val (.ref b100), .unset, .unset, .unset, .unset, .unset] [(.int (if f2 = (0 : Int32) then (0 : Int32) else (4 : Int32))), (.int ((if ¬ (f0 = (0 : Int32)) then (1 : Int32) else (0 : Int32)) + (if f1 = (0 : Int32) then (0 : Int32) else (2 : Int32))))])) t → Steps p.tables e below (s₁.setTop (entryFrame m #[(.int x0), (.int x1), (.int x2), (.long x3), (.int x4), (.int x5)] maxLocals)) t := fun t k => pre105 t (by
                      show Steps p.tables e below (T100.setTop (mkF m 262 #[.val (.int x0), .val (.int x1), .val (.int x2), .val (.long x3), .second, .val (.int x4), .val (.int x5), .val (.int f0), .val (.int f1), .val (.int f2), .val (.int f3), .val (.int f4), .val (.int (x4 &&& (3 : Int32))), .val (.ref pp), .val (.int sz), .val (.ref b60), .val (.ref b100), .unset, .unset, .unset, .unset, .unset] [(.int (if f1 = (0 : Int32) then (0 : Int32) else (2 : Int32))), (.int (if ¬ (f0 = (0 : Int32)) then (1 : Int32) else (0 : Int32)))])) _
                      refine XS.iadd X100.here hx rfl (hb hby at_262) rfl ?_
                      show Steps p.tables e below (T100.setTop (mkF m 263 #[.val (.int x0), .val (.int x1), .val (.int x2), .val (.long x3), .second, .val (.int x4), .val (.int x5), .val (.int f0), .val (.int f1), .val (.int f2), .val (.int f3), .val (.int f4), .val (.int (x4 &&& (3 : Int32))), .val (.ref pp), .val (.int sz), .val (.ref b60), .val (.ref b100), .unset, .unset, .unset, .unset, .unset] [(.int ((if ¬ (f0 = (0 : Int32)) then (1 : Int32) else (0 : Int32)) + (if f1 = (0 : Int32) then (0 : Int32) else (2 : Int32))))])) _
                      refine XS.iload X100.here hx rfl (hb hby at_263) rfl ?_
                      show Steps p.tables e below (T100.setTop (mkF m 265 #[.val (.int x0), .val (.int x1), .val (.int x2), .val (.long x3), .second, .val (.int x4), .val (.int x5), .val (.int f0), .val (.int f1), .val (.int f2), .val (.int f3), .val (.int f4), .val (.int (x4 &&& (3 : Int32))), .val (.ref pp), .val (.int sz), .val (.ref b60), .val (.ref b100), .unset, .unset, .unset, .unset, .unset] [(.int f2), (.int ((if ¬ (f0 = (0 : Int32)) then (1 : Int32) else (0 : Int32)) + (if f1 = (0 : Int32) then (0 : Int32) else (2 : Int32))))])) _
                      by_cases hc106 : f2 = (0 : Int32)
                      · skip
                        refine XS.ifYes X100.here hx rfl (pc0 := 265) (pc' := 272) rfl (hb hby at_265) rfl ((if0 _ _).trans (teq hc106).1) (by decide) (by decide) ?_
                        show Steps p.tables e below (T100.setTop (mkF m 272 #[.val (.int x0), .val (.int x1), .val (.int x2), .val (.long x3), .second, .val (.int x4), .val (.int x5), .val (.int f0), .val (.int f1), .val (.int f2), .val (.int f3), .val (.int f4), .val (.int (x4 &&& (3 : Int32))), .val (.ref pp), .val (.int sz), .val (.ref b60), .val (.ref b100), .unset, .unset, .unset, .unset, .unset] [(.int ((if ¬ (f0 = (0 : Int32)) then (1 : Int32) else (0 : Int32)) + (if f1 = (0 : Int32) then (0 : Int32) else (2 : Int32))))])) _
                        refine XS.iconst X100.here hx rfl (hb hby at_272) ?_
                        exact castTop (congrArg (fun z_ => (mkF m 273 #[.val (.int x0), .val (.int x1), .val (.int x2), .val (.long x3), .second, .val (.int x4), .val (.int x5), .val (.int f0), .val (.int f1), .val (.int f2), .val (.int f3), .val (.int f4), .val (.int (x4 &&& (3 : Int32))), .val (.ref pp), .val (.int sz), .val (.ref b60), .val (.ref b100), .unset, .unset, .unset, .unset, .unset] [(.int z_), (.int ((if ¬ (f0 = (0 : Int32)) then (1 : Int32) else (0 : Int32)) + (if f1 = (0 : Int32) then (0 : Int32) else (2 : Int32))))])) (show (0 : Int32) = (if f2 = (0 : Int32) then (0 : Int32) else (4 : Int32)) from by rw [if_pos hc106])) k
                      · skip
                        refine XS.ifNo X100.here hx rfl (hb hby at_265) rfl ((if0 _ _).trans (feq hc106).1) ?_
                        show Steps p.tables e below (T100.setTop (mkF m 268 #[.val (.int x0), .val (.int x1), .val (.int x2), .val (.long x3), .second, .val (.int x4), .val (.int x5), .val (.int f0), .val (.int f1), .val (.int f2), .val (.int f3), .val (.int f4), .val (.int (x4 &&& (3 : Int32))), .val (.ref pp), .val (.int sz), .val (.ref b60), .val (.ref b100), .unset, .unset, .unset, .unset, .unset] [(.int ((if ¬ (f0 = (0 : Int32)) then (1 : Int32) else (0 : Int32)) + (if f1 = (0 : Int32) then (0 : Int32) else (2 : Int32))))])) _
                        refine XS.iconst X100.here hx rfl (hb hby at_268) ?_
                        show Steps p.tables e below (T100.setTop (mkF m 269 #[.val (.int x0), .val (.int x1), .val (.int x2), .val (.long x3), .second, .val (.int x4), .val (.int x5), .val (.int f0), .val (.int f1), .val (.int f2), .val (.int f3), .val (.int f4), .val (.int (x4 &&& (3 : Int32))), .val (.ref pp), .val (.int sz), .val (.ref b60), .val (.ref b100), .unset, .unset, .unset, .unset, .unset] [(.int (4 : Int32)), (.int ((if ¬ (f0 = (0 : Int32)) then (1 : Int32) else (0 : Int32)) + (if f1 = (0 : Int32) then (0 : Int32) else (2 : Int32))))])) _
                        refine XS.goto X100.here hx rfl (pc0 := 269) (pc' := 273) rfl (hb hby at_269) (by decide) (by decide) ?_
                        exact castTop (congrArg (fun z_ => (mkF m 273 #[.val (.int x0), .val (.int x1), .val (.int x2), .val (.long x3), .second, .val (.int x4), .val (.int x5), .val (.int f0), .val (.int f1), .val (.int f2), .val (.int f3), .val (.int f4), .val (.int (x4 &&& (3 : Int32))), .val (.ref pp), .val (.int sz), .val (.ref b60), .val (.ref b100), .unset, .unset, .unset, .unset, .unset] [(.int z_), (.int ((if ¬ (f0 = (0 : Int32)) then (1 : Int32) else (0 : Int32)) + (if f1 = (0 : Int32) then (0 : Int32) else (2 : Int32))))])) (show (4 : Int32) = (if f2 = (0 : Int32) then (0 : Int32) else (4 : Int32)) from by rw [if_neg hc106])) k)
                    as_aux_lemma =>
                      have pre109 : ∀ t, Steps p.tables e below (T100.setTop (mkF m 285 #[.val (.int x0), .val (.int x1), .val (.int x2), .val (.long x3), .second, .val (.int x4), .val (.int x5), .val (.int f0), .val (.int f1), .val (.int f2), .val (.int f3), .val (.int f4), .val (.int (x4 &&& (3 : Int32))), .val (.ref pp), .val (.int sz), .val (.ref b60), .val (.ref b100), .unset, .unset, .unset, .unset, .unset] [(.int (if f3 = (0 : Int32) then (0 : Int32) else (8 : Int32))), (.int (((if ¬ (f0 = (0 : Int32)) then (1 : Int32) else (0 : Int32)) + (if f1 = (0 : Int32) then (0 : Int32) else (2 : Int32))) + (if f2 = (0 : Int32) then (0 : Int32) else (4 : Int32))))])) t → Steps p.tables e below (s₁.setTop (entryFrame m #[(.int x0), (.int x1), (.int x2), (.long x3), (.int x4), (.int x5)] maxLocals)) t := fun t k => pre107 t (by
                        show Steps p.tables e below (T100.setTop (mkF m 273 #[.val (.int x0), .val (.int x1), .val (.int x2), .val (.long x3), .second, .val (.int x4), .val (.int x5), .val (.int f0), .val (.int f1), .val (.int f2), .val (.int f3), .val (.int f4), .val (.int (x4 &&& (3 : Int32))), .val (.ref pp), .val (.int sz), .val (.ref b60), .val (.ref b100), .unset, .unset, .unset, .unset, .unset] [(.int (if f2 = (0 : Int32) then (0 : Int32) else (4 : Int32))), (.int ((if ¬ (f0 = (0 : Int32)) then (1 : Int32) else (0 : Int32)) + (if f1 = (0 : Int32) then (0 : Int32) else (2 : Int32))))])) _
                        refine XS.iadd X100.here hx rfl (hb hby at_273) rfl ?_
                        show Steps p.tables e below (T100.setTop (mkF m 274 #[.val (.int x0), .val (.int x1), .val (.int x2), .val (.long x3), .second, .val (.int x4), .val (.int x5), .val (.int f0), .val (.int f1), .val (.int f2), .val (.int f3), .val (.int f4), .val (.int (x4 &&& (3 : Int32))), .val (.ref pp), .val (.int sz), .val (.ref b60), .val (.ref b100), .unset, .unset, .unset, .unset, .unset] [(.int (((if ¬ (f0 = (0 : Int32)) then (1 : Int32) else (0 : Int32)) + (if f1 = (0 : Int32) then (0 : Int32) else (2 : Int32))) + (if f2 = (0 : Int32) then (0 : Int32) else (4 : Int32))))])) _
                        refine XS.iload X100.here hx rfl (hb hby at_274) rfl ?_
                        show Steps p.tables e below (T100.setTop (mkF m 276 #[.val (.int x0), .val (.int x1), .val (.int x2), .val (.long x3), .second, .val (.int x4), .val (.int x5), .val (.int f0), .val (.int f1), .val (.int f2), .val (.int f3), .val (.int f4), .val (.int (x4 &&& (3 : Int32))), .val (.ref pp), .val (.int sz), .val (.ref b60), .val (.ref b100), .unset, .unset, .unset, .unset, .unset] [(.int f3), (.int (((if ¬ (f0 = (0 : Int32)) then (1 : Int32) else (0 : Int32)) + (if f1 = (0 : Int32) then (0 : Int32) else (2 : Int32))) + (if f2 = (0 : Int32) then (0 : Int32) else (4 : Int32))))])) _
                        by_cases hc108 : f3 = (0 : Int32)
                        · skip
                          refine XS.ifYes X100.here hx rfl (pc0 := 276) (pc' := 284) rfl (hb hby at_276) rfl ((if0 _ _).trans (teq hc108).1) (by decide) (by decide) ?_
                          show Steps p.tables e below (T100.setTop (mkF m 284 #[.val (.int x0), .val (.int x1), .val (.int x2), .val (.long x3), .second, .val (.int x4), .val (.int x5), .val (.int f0), .val (.int f1), .val (.int f2), .val (.int f3), .val (.int f4), .val (.int (x4 &&& (3 : Int32))), .val (.ref pp), .val (.int sz), .val (.ref b60), .val (.ref b100), .unset, .unset, .unset, .unset, .unset] [(.int (((if ¬ (f0 = (0 : Int32)) then (1 : Int32) else (0 : Int32)) + (if f1 = (0 : Int32) then (0 : Int32) else (2 : Int32))) + (if f2 = (0 : Int32) then (0 : Int32) else (4 : Int32))))])) _
                          refine XS.iconst X100.here hx rfl (hb hby at_284) ?_
                          exact castTop (congrArg (fun z_ => (mkF m 285 #[.val (.int x0), .val (.int x1), .val (.int x2), .val (.long x3), .second, .val (.int x4), .val (.int x5), .val (.int f0), .val (.int f1), .val (.int f2), .val (.int f3), .val (.int f4), .val (.int (x4 &&& (3 : Int32))), .val (.ref pp), .val (.int sz), .val (.ref b60), .val (.ref b100), .unset, .unset, .unset, .unset, .unset] [(.int z_), (.int (((if ¬ (f0 = (0 : Int32)) then (1 : Int32) else (0 : Int32)) + (if f1 = (0 : Int32) then (0 : Int32) else (2 : Int32))) + (if f2 = (0 : Int32) then (0 : Int32) else (4 : Int32))))])) (show (0 : Int32) = (if f3 = (0 : Int32) then (0 : Int32) else (8 : Int32)) from by rw [if_pos hc108])) k
                        · skip
                          refine XS.ifNo X100.here hx rfl (hb hby at_276) rfl ((if0 _ _).trans (feq hc108).1) ?_
                          show Steps p.tables e below (T100.setTop (mkF m 279 #[.val (.int x0), .val (.int x1), .val (.int x2), .val (.long x3), .second, .val (.int x4), .val (.int x5), .val (.int f0), .val (.int f1), .val (.int f2), .val (.int f3), .val (.int f4), .val (.int (x4 &&& (3 : Int32))), .val (.ref pp), .val (.int sz), .val (.ref b60), .val (.ref b100), .unset, .unset, .unset, .unset, .unset] [(.int (((if ¬ (f0 = (0 : Int32)) then (1 : Int32) else (0 : Int32)) + (if f1 = (0 : Int32) then (0 : Int32) else (2 : Int32))) + (if f2 = (0 : Int32) then (0 : Int32) else (4 : Int32))))])) _
                          refine XS.bipush X100.here hx rfl (hb hby at_279) ?_
                          show Steps p.tables e below (T100.setTop (mkF m 281 #[.val (.int x0), .val (.int x1), .val (.int x2), .val (.long x3), .second, .val (.int x4), .val (.int x5), .val (.int f0), .val (.int f1), .val (.int f2), .val (.int f3), .val (.int f4), .val (.int (x4 &&& (3 : Int32))), .val (.ref pp), .val (.int sz), .val (.ref b60), .val (.ref b100), .unset, .unset, .unset, .unset, .unset] [(.int (8 : Int32)), (.int (((if ¬ (f0 = (0 : Int32)) then (1 : Int32) else (0 : Int32)) + (if f1 = (0 : Int32) then (0 : Int32) else (2 : Int32))) + (if f2 = (0 : Int32) then (0 : Int32) else (4 : Int32))))])) _
                          refine XS.goto X100.here hx rfl (pc0 := 281) (pc' := 285) rfl (hb hby at_281) (by decide) (by decide) ?_
                          exact castTop (congrArg (fun z_ => (mkF m 285 #[.val (.int x0), .val (.int x1), .val (.int x2), .val (.long x3), .second, .val (.int x4), .val (.int x5), .val (.int f0), .val (.int f1), .val (.int f2), .val (.int f3), .val (.int f4), .val (.int (x4 &&& (3 : Int32))), .val (.ref pp), .val (.int sz), .val (.ref b60), .val (.ref b100), .unset, .unset, .unset, .unset, .unset] [(.int z_), (.int (((if ¬ (f0 = (0 : Int32)) then (1 : Int32) else (0 : Int32)) + (if f1 = (0 : Int32) then (0 : Int32) else (2 : Int32))) + (if f2 = (0 : Int32) then (0 : Int32) else (4 : Int32))))])) (show (8 : Int32) = (if f3 = (0 : Int32) then (0 : Int32) else (8 : Int32)) from by rw [if_neg hc108])) k)
                      as_aux_lemma =>
                        have pre111 : ∀ t, Steps p.tables e below (T100.setTop (mkF m 299 #[.val (.int x0), .val (.int x1), .val (.int x2), .val (.long x3), .second, .val (.int x4), .val (.int x5), .val (.int f0), .val (.int f1), .val (.int f2), .val (.int f3), .val (.int f4), .val (.int (x4 &&& (3 : Int32))), .val (.ref pp), .val (.int sz), .val (.ref b60), .val (.ref b100), .unset, .unset, .unset, .unset, .unset] [(.int (if f4 = (0 : Int32) then (0 : Int32) else ((4 : Int32) + sz))), (.int ((((if ¬ (f0 = (0 : Int32)) then (1 : Int32) else (0 : Int32)) + (if f1 = (0 : Int32) then (0 : Int32) else (2 : Int32))) + (if f2 = (0 : Int32) then (0 : Int32) else (4 : Int32))) + (if f3 = (0 : Int32) then (0 : Int32) else (8 : Int32))))])) t → Steps p.tables e below (s₁.setTop (entryFrame m #[(.int x0), (.int x1), (.int x2), (.long x3), (.int x4), (.int x5)] maxLocals)) t := fun t k => pre109 t (by
                          show Steps p.tables e below (T100.setTop (mkF m 285 #[.val (.int x0), .val (.int x1), .val (.int x2), .val (.long x3), .second, .val (.int x4), .val (.int x5), .val (.int f0), .val (.int f1), .val (.int f2), .val (.int f3), .val (.int f4), .val (.int (x4 &&& (3 : Int32))), .val (.ref pp), .val (.int sz), .val (.ref b60), .val (.ref b100), .unset, .unset, .unset, .unset, .unset] [(.int (if f3 = (0 : Int32) then (0 : Int32) else (8 : Int32))), (.int (((if ¬ (f0 = (0 : Int32)) then (1 : Int32) else (0 : Int32)) + (if f1 = (0 : Int32) then (0 : Int32) else (2 : Int32))) + (if f2 = (0 : Int32) then (0 : Int32) else (4 : Int32))))])) _
                          refine XS.iadd X100.here hx rfl (hb hby at_285) rfl ?_
                          show Steps p.tables e below (T100.setTop (mkF m 286 #[.val (.int x0), .val (.int x1), .val (.int x2), .val (.long x3), .second, .val (.int x4), .val (.int x5), .val (.int f0), .val (.int f1), .val (.int f2), .val (.int f3), .val (.int f4), .val (.int (x4 &&& (3 : Int32))), .val (.ref pp), .val (.int sz), .val (.ref b60), .val (.ref b100), .unset, .unset, .unset, .unset, .unset] [(.int ((((if ¬ (f0 = (0 : Int32)) then (1 : Int32) else (0 : Int32)) + (if f1 = (0 : Int32) then (0 : Int32) else (2 : Int32))) + (if f2 = (0 : Int32) then (0 : Int32) else (4 : Int32))) + (if f3 = (0 : Int32) then (0 : Int32) else (8 : Int32))))])) _
                          refine XS.iload X100.here hx rfl (hb hby at_286) rfl ?_
                          show Steps p.tables e below (T100.setTop (mkF m 288 #[.val (.int x0), .val (.int x1), .val (.int x2), .val (.long x3), .second, .val (.int x4), .val (.int x5), .val (.int f0), .val (.int f1), .val (.int f2), .val (.int f3), .val (.int f4), .val (.int (x4 &&& (3 : Int32))), .val (.ref pp), .val (.int sz), .val (.ref b60), .val (.ref b100), .unset, .unset, .unset, .unset, .unset] [(.int f4), (.int ((((if ¬ (f0 = (0 : Int32)) then (1 : Int32) else (0 : Int32)) + (if f1 = (0 : Int32) then (0 : Int32) else (2 : Int32))) + (if f2 = (0 : Int32) then (0 : Int32) else (4 : Int32))) + (if f3 = (0 : Int32) then (0 : Int32) else (8 : Int32))))])) _
                          by_cases hc110 : f4 = (0 : Int32)
                          · skip
                            refine XS.ifYes X100.here hx rfl (pc0 := 288) (pc' := 298) rfl (hb hby at_288) rfl ((if0 _ _).trans (teq hc110).1) (by decide) (by decide) ?_
                            show Steps p.tables e below (T100.setTop (mkF m 298 #[.val (.int x0), .val (.int x1), .val (.int x2), .val (.long x3), .second, .val (.int x4), .val (.int x5), .val (.int f0), .val (.int f1), .val (.int f2), .val (.int f3), .val (.int f4), .val (.int (x4 &&& (3 : Int32))), .val (.ref pp), .val (.int sz), .val (.ref b60), .val (.ref b100), .unset, .unset, .unset, .unset, .unset] [(.int ((((if ¬ (f0 = (0 : Int32)) then (1 : Int32) else (0 : Int32)) + (if f1 = (0 : Int32) then (0 : Int32) else (2 : Int32))) + (if f2 = (0 : Int32) then (0 : Int32) else (4 : Int32))) + (if f3 = (0 : Int32) then (0 : Int32) else (8 : Int32))))])) _
                            refine XS.iconst X100.here hx rfl (hb hby at_298) ?_
                            exact castTop (congrArg (fun z_ => (mkF m 299 #[.val (.int x0), .val (.int x1), .val (.int x2), .val (.long x3), .second, .val (.int x4), .val (.int x5), .val (.int f0), .val (.int f1), .val (.int f2), .val (.int f3), .val (.int f4), .val (.int (x4 &&& (3 : Int32))), .val (.ref pp), .val (.int sz), .val (.ref b60), .val (.ref b100), .unset, .unset, .unset, .unset, .unset] [(.int z_), (.int ((((if ¬ (f0 = (0 : Int32)) then (1 : Int32) else (0 : Int32)) + (if f1 = (0 : Int32) then (0 : Int32) else (2 : Int32))) + (if f2 = (0 : Int32) then (0 : Int32) else (4 : Int32))) + (if f3 = (0 : Int32) then (0 : Int32) else (8 : Int32))))])) (show (0 : Int32) = (if f4 = (0 : Int32) then (0 : Int32) else ((4 : Int32) + sz)) from by rw [if_pos hc110])) k
                          · skip
                            refine XS.ifNo X100.here hx rfl (hb hby at_288) rfl ((if0 _ _).trans (feq hc110).1) ?_
                            show Steps p.tables e below (T100.setTop (mkF m 291 #[.val (.int x0), .val (.int x1), .val (.int x2), .val (.long x3), .second, .val (.int x4), .val (.int x5), .val (.int f0), .val (.int f1), .val (.int f2), .val (.int f3), .val (.int f4), .val (.int (x4 &&& (3 : Int32))), .val (.ref pp), .val (.int sz), .val (.ref b60), .val (.ref b100), .unset, .unset, .unset, .unset, .unset] [(.int ((((if ¬ (f0 = (0 : Int32)) then (1 : Int32) else (0 : Int32)) + (if f1 = (0 : Int32) then (0 : Int32) else (2 : Int32))) + (if f2 = (0 : Int32) then (0 : Int32) else (4 : Int32))) + (if f3 = (0 : Int32) then (0 : Int32) else (8 : Int32))))])) _
                            refine XS.iconst X100.here hx rfl (hb hby at_291) ?_
                            show Steps p.tables e below (T100.setTop (mkF m 292 #[.val (.int x0), .val (.int x1), .val (.int x2), .val (.long x3), .second, .val (.int x4), .val (.int x5), .val (.int f0), .val (.int f1), .val (.int f2), .val (.int f3), .val (.int f4), .val (.int (x4 &&& (3 : Int32))), .val (.ref pp), .val (.int sz), .val (.ref b60), .val (.ref b100), .unset, .unset, .unset, .unset, .unset] [(.int (4 : Int32)), (.int ((((if ¬ (f0 = (0 : Int32)) then (1 : Int32) else (0 : Int32)) + (if f1 = (0 : Int32) then (0 : Int32) else (2 : Int32))) + (if f2 = (0 : Int32) then (0 : Int32) else (4 : Int32))) + (if f3 = (0 : Int32) then (0 : Int32) else (8 : Int32))))])) _
                            refine XS.iload X100.here hx rfl (hb hby at_292) rfl ?_
                            show Steps p.tables e below (T100.setTop (mkF m 294 #[.val (.int x0), .val (.int x1), .val (.int x2), .val (.long x3), .second, .val (.int x4), .val (.int x5), .val (.int f0), .val (.int f1), .val (.int f2), .val (.int f3), .val (.int f4), .val (.int (x4 &&& (3 : Int32))), .val (.ref pp), .val (.int sz), .val (.ref b60), .val (.ref b100), .unset, .unset, .unset, .unset, .unset] [(.int sz), (.int (4 : Int32)), (.int ((((if ¬ (f0 = (0 : Int32)) then (1 : Int32) else (0 : Int32)) + (if f1 = (0 : Int32) then (0 : Int32) else (2 : Int32))) + (if f2 = (0 : Int32) then (0 : Int32) else (4 : Int32))) + (if f3 = (0 : Int32) then (0 : Int32) else (8 : Int32))))])) _
                            refine XS.iadd X100.here hx rfl (hb hby at_294) rfl ?_
                            show Steps p.tables e below (T100.setTop (mkF m 295 #[.val (.int x0), .val (.int x1), .val (.int x2), .val (.long x3), .second, .val (.int x4), .val (.int x5), .val (.int f0), .val (.int f1), .val (.int f2), .val (.int f3), .val (.int f4), .val (.int (x4 &&& (3 : Int32))), .val (.ref pp), .val (.int sz), .val (.ref b60), .val (.ref b100), .unset, .unset, .unset, .unset, .unset] [(.int ((4 : Int32) + sz)), (.int ((((if ¬ (f0 = (0 : Int32)) then (1 : Int32) else (0 : Int32)) + (if f1 = (0 : Int32) then (0 : Int32) else (2 : Int32))) + (if f2 = (0 : Int32) then (0 : Int32) else (4 : Int32))) + (if f3 = (0 : Int32) then (0 : Int32) else (8 : Int32))))])) _
                            refine XS.goto X100.here hx rfl (pc0 := 295) (pc' := 299) rfl (hb hby at_295) (by decide) (by decide) ?_
                            exact castTop (congrArg (fun z_ => (mkF m 299 #[.val (.int x0), .val (.int x1), .val (.int x2), .val (.long x3), .second, .val (.int x4), .val (.int x5), .val (.int f0), .val (.int f1), .val (.int f2), .val (.int f3), .val (.int f4), .val (.int (x4 &&& (3 : Int32))), .val (.ref pp), .val (.int sz), .val (.ref b60), .val (.ref b100), .unset, .unset, .unset, .unset, .unset] [(.int z_), (.int ((((if ¬ (f0 = (0 : Int32)) then (1 : Int32) else (0 : Int32)) + (if f1 = (0 : Int32) then (0 : Int32) else (2 : Int32))) + (if f2 = (0 : Int32) then (0 : Int32) else (4 : Int32))) + (if f3 = (0 : Int32) then (0 : Int32) else (8 : Int32))))])) (show ((4 : Int32) + sz) = (if f4 = (0 : Int32) then (0 : Int32) else ((4 : Int32) + sz)) from by rw [if_neg hc110])) k)
                        as_aux_lemma =>
                          have pre112 : ∀ t, Steps p.tables e below (T100.setTop (mkF m 302 #[.val (.int x0), .val (.int x1), .val (.int x2), .val (.long x3), .second, .val (.int x4), .val (.int x5), .val (.int f0), .val (.int f1), .val (.int f2), .val (.int f3), .val (.int f4), .val (.int (x4 &&& (3 : Int32))), .val (.ref pp), .val (.int sz), .val (.ref b60), .val (.ref b100), .val (.int (((((if ¬ (f0 = (0 : Int32)) then (1 : Int32) else (0 : Int32)) + (if f1 = (0 : Int32) then (0 : Int32) else (2 : Int32))) + (if f2 = (0 : Int32) then (0 : Int32) else (4 : Int32))) + (if f3 = (0 : Int32) then (0 : Int32) else (8 : Int32))) + (if f4 = (0 : Int32) then (0 : Int32) else ((4 : Int32) + sz)))), .unset, .unset, .unset, .unset] [])) t → Steps p.tables e below (s₁.setTop (entryFrame m #[(.int x0), (.int x1), (.int x2), (.long x3), (.int x4), (.int x5)] maxLocals)) t := fun t k => pre111 t (by
                            show Steps p.tables e below (T100.setTop (mkF m 299 #[.val (.int x0), .val (.int x1), .val (.int x2), .val (.long x3), .second, .val (.int x4), .val (.int x5), .val (.int f0), .val (.int f1), .val (.int f2), .val (.int f3), .val (.int f4), .val (.int (x4 &&& (3 : Int32))), .val (.ref pp), .val (.int sz), .val (.ref b60), .val (.ref b100), .unset, .unset, .unset, .unset, .unset] [(.int (if f4 = (0 : Int32) then (0 : Int32) else ((4 : Int32) + sz))), (.int ((((if ¬ (f0 = (0 : Int32)) then (1 : Int32) else (0 : Int32)) + (if f1 = (0 : Int32) then (0 : Int32) else (2 : Int32))) + (if f2 = (0 : Int32) then (0 : Int32) else (4 : Int32))) + (if f3 = (0 : Int32) then (0 : Int32) else (8 : Int32))))])) _
                            refine XS.iadd X100.here hx rfl (hb hby at_299) rfl ?_
                            show Steps p.tables e below (T100.setTop (mkF m 300 #[.val (.int x0), .val (.int x1), .val (.int x2), .val (.long x3), .second, .val (.int x4), .val (.int x5), .val (.int f0), .val (.int f1), .val (.int f2), .val (.int f3), .val (.int f4), .val (.int (x4 &&& (3 : Int32))), .val (.ref pp), .val (.int sz), .val (.ref b60), .val (.ref b100), .unset, .unset, .unset, .unset, .unset] [(.int (((((if ¬ (f0 = (0 : Int32)) then (1 : Int32) else (0 : Int32)) + (if f1 = (0 : Int32) then (0 : Int32) else (2 : Int32))) + (if f2 = (0 : Int32) then (0 : Int32) else (4 : Int32))) + (if f3 = (0 : Int32) then (0 : Int32) else (8 : Int32))) + (if f4 = (0 : Int32) then (0 : Int32) else ((4 : Int32) + sz))))])) _
                            refine XS.istore X100.here hx rfl (hb hby at_300) rfl (l' := #[.val (.int x0), .val (.int x1), .val (.int x2), .val (.long x3), .second, .val (.int x4), .val (.int x5), .val (.int f0), .val (.int f1), .val (.int f2), .val (.int f3), .val (.int f4), .val (.int (x4 &&& (3 : Int32))), .val (.ref pp), .val (.int sz), .val (.ref b60), .val (.ref b100), .val (.int (((((if ¬ (f0 = (0 : Int32)) then (1 : Int32) else (0 : Int32)) + (if f1 = (0 : Int32) then (0 : Int32) else (2 : Int32))) + (if f2 = (0 : Int32) then (0 : Int32) else (4 : Int32))) + (if f3 = (0 : Int32) then (0 : Int32) else (8 : Int32))) + (if f4 = (0 : Int32) then (0 : Int32) else ((4 : Int32) + sz)))), .unset, .unset, .unset, .unset]) rfl ?_
                            exact k)
                          as_aux_lemma =>
                            have hexp : (((((if ¬ (f0 = (0 : Int32)) then (1 : Int32) else (0 : Int32)) + (if f1 = (0 : Int32) then (0 : Int32) else (2 : Int32))) + (if f2 = (0 : Int32) then (0 : Int32) else (4 : Int32))) + (if f3 = (0 : Int32) then (0 : Int32) else (8 : Int32))) + (if f4 = (0 : Int32) then (0 : Int32) else ((4 : Int32) + sz))) = z5 := by rw [hz5e, hz4e, hz3e, hz2e, hz1e]
                            have pre113 : ∀ t, Steps p.tables e below (T100.setTop (mkF m 304 #[.val (.int x0), .val (.int x1), .val (.int x2), .val (.long x3), .second, .val (.int x4), .val (.int x5), .val (.int f0), .val (.int f1), .val (.int f2), .val (.int f3), .val (.int f4), .val (.int (x4 &&& (3 : Int32))), .val (.ref pp), .val (.int sz), .val (.ref b60), .val (.ref b100), .val (.int z5), .unset, .unset, .unset, .unset] [(.ref b100)])) t → Steps p.tables e below (s₁.setTop (entryFrame m #[(.int x0), (.int x1), (.int x2), (.long x3), (.int x4), (.int x5)] maxLocals)) t := fun t k => pre112 t (by
                              show Steps p.tables e below (T100.setTop (mkF m 302 #[.val (.int x0), .val (.int x1), .val (.int x2), .val (.long x3), .second, .val (.int x4), .val (.int x5), .val (.int f0), .val (.int f1), .val (.int f2), .val (.int f3), .val (.int f4), .val (.int (x4 &&& (3 : Int32))), .val (.ref pp), .val (.int sz), .val (.ref b60), .val (.ref b100), .val (.int (((((if ¬ (f0 = (0 : Int32)) then (1 : Int32) else (0 : Int32)) + (if f1 = (0 : Int32) then (0 : Int32) else (2 : Int32))) + (if f2 = (0 : Int32) then (0 : Int32) else (4 : Int32))) + (if f3 = (0 : Int32) then (0 : Int32) else (8 : Int32))) + (if f4 = (0 : Int32) then (0 : Int32) else ((4 : Int32) + sz)))), .unset, .unset, .unset, .unset] [])) _
                              rw [hexp]
                              show Steps p.tables e below (T100.setTop (mkF m 302 #[.val (.int x0), .val (.int x1), .val (.int x2), .val (.long x3), .second, .val (.int x4), .val (.int x5), .val (.int f0), .val (.int f1), .val (.int f2), .val (.int f3), .val (.int f4), .val (.int (x4 &&& (3 : Int32))), .val (.ref pp), .val (.int sz), .val (.ref b60), .val (.ref b100), .val (.int z5), .unset, .unset, .unset, .unset] [])) _
                              refine XS.aload X100.here hx rfl (hb hby at_302) rfl rfl ?_
                              exact k)
                            as_aux_lemma =>
                              obtain ⟨cl114, Ar114, q114, S114, M114, H114, G114⟩ := id V100
                              have pre116 : ∀ t, Steps p.tables e below (T100.setTop (mkF m 315 #[.val (.int x0), .val (.int x1), .val (.int x2), .val (.long x3), .second, .val (.int x4), .val (.int x5), .val (.int f0), .val (.int f1), .val (.int f2), .val (.int f3), .val (.int f4), .val (.int (x4 &&& (3 : Int32))), .val (.ref pp), .val (.int sz), .val (.ref b60), .val (.ref b100), .val (.int z5), .val (.int (0 : Int32)), .unset, .unset, .unset] [])) t → Steps p.tables e below (s₁.setTop (entryFrame m #[(.int x0), (.int x1), (.int x2), (.long x3), (.int x4), (.int x5)] maxLocals)) t := fun t k => pre113 t (by
                                show Steps p.tables e below (T100.setTop (mkF m 304 #[.val (.int x0), .val (.int x1), .val (.int x2), .val (.long x3), .second, .val (.int x4), .val (.int x5), .val (.int f0), .val (.int f1), .val (.int f2), .val (.int f3), .val (.int f4), .val (.int (x4 &&& (3 : Int32))), .val (.ref pp), .val (.int sz), .val (.ref b60), .val (.ref b100), .val (.int z5), .unset, .unset, .unset, .unset] [(.ref b100)])) _
                                refine X100.arraylength hx Ar114.1 (State.isArrayOf_alike hZ.alike Ar114.2.1) (g := (mkF m 304 #[.val (.int x0), .val (.int x1), .val (.int x2), .val (.long x3), .second, .val (.int x4), .val (.int x5), .val (.int f0), .val (.int f1), .val (.int f2), .val (.int f3), .val (.int f4), .val (.int (x4 &&& (3 : Int32))), .val (.ref pp), .val (.int sz), .val (.ref b60), .val (.ref b100), .val (.int z5), .unset, .unset, .unset, .unset] [(.ref b100)])) rfl rfl (hb hby at_304) _ ?_
                                rw [len_of S114 M114]
                                show Steps p.tables e below (T100.setTop (mkF m 305 #[.val (.int x0), .val (.int x1), .val (.int x2), .val (.long x3), .second, .val (.int x4), .val (.int x5), .val (.int f0), .val (.int f1), .val (.int f2), .val (.int f3), .val (.int f4), .val (.int (x4 &&& (3 : Int32))), .val (.ref pp), .val (.int sz), .val (.ref b60), .val (.ref b100), .val (.int z5), .unset, .unset, .unset, .unset] [(.int z5)])) _
                                refine XS.iload X100.here hx rfl (hb hby at_305) rfl ?_
                                show Steps p.tables e below (T100.setTop (mkF m 307 #[.val (.int x0), .val (.int x1), .val (.int x2), .val (.long x3), .second, .val (.int x4), .val (.int x5), .val (.int f0), .val (.int f1), .val (.int f2), .val (.int f3), .val (.int f4), .val (.int (x4 &&& (3 : Int32))), .val (.ref pp), .val (.int sz), .val (.ref b60), .val (.ref b100), .val (.int z5), .unset, .unset, .unset, .unset] [(.int z5), (.int z5)])) _
                                refine XS.icmpYes X100.here hx rfl (pc0 := 307) (pc' := 312) rfl (hb hby at_307) rfl (teq (rfl : z5 = z5)).1 (by decide) (by decide) ?_
                                show Steps p.tables e below (T100.setTop (mkF m 312 #[.val (.int x0), .val (.int x1), .val (.int x2), .val (.long x3), .second, .val (.int x4), .val (.int x5), .val (.int f0), .val (.int f1), .val (.int f2), .val (.int f3), .val (.int f4), .val (.int (x4 &&& (3 : Int32))), .val (.ref pp), .val (.int sz), .val (.ref b60), .val (.ref b100), .val (.int z5), .unset, .unset, .unset, .unset] [])) _
                                refine XS.iconst X100.here hx rfl (hb hby at_312) ?_
                                show Steps p.tables e below (T100.setTop (mkF m 313 #[.val (.int x0), .val (.int x1), .val (.int x2), .val (.long x3), .second, .val (.int x4), .val (.int x5), .val (.int f0), .val (.int f1), .val (.int f2), .val (.int f3), .val (.int f4), .val (.int (x4 &&& (3 : Int32))), .val (.ref pp), .val (.int sz), .val (.ref b60), .val (.ref b100), .val (.int z5), .unset, .unset, .unset, .unset] [(.int (0 : Int32))])) _
                                refine XS.istore X100.here hx rfl (hb hby at_313) rfl (l' := #[.val (.int x0), .val (.int x1), .val (.int x2), .val (.long x3), .second, .val (.int x4), .val (.int x5), .val (.int f0), .val (.int f1), .val (.int f2), .val (.int f3), .val (.int f4), .val (.int (x4 &&& (3 : Int32))), .val (.ref pp), .val (.int sz), .val (.ref b60), .val (.ref b100), .val (.int z5), .val (.int (0 : Int32)), .unset, .unset, .unset]) rfl ?_
                                exact k)
                              obtain ⟨T115, LL115, X115, e115, N115, pre115⟩ : ∃ (T115 : State) (LL115 : List Loc), Stand p l e room_1 s m #[(.int x0), (.int x1), (.int x2), (.long x3), (.int x4), (.int x5)] below meth c T115 LL115 5 422 ∧ T115.heap = T100.heap ∧ Fr n0 LL115 ∧ (∀ t, Steps p.tables e below (T115.setTop (mkF m 335 #[.val (.int x0), .val (.int x1), .val (.int x2), .val (.long x3), .second, .val (.int x4), .val (.int x5), .val (.int f0), .val (.int f1), .val (.int f2), .val (.int f3), .val (.int f4), .val (.int (x4 &&& (3 : Int32))), .val (.ref pp), .val (.int sz), .val (.ref b60), .val (.ref b100), .val (.int z5), .val (.int z1), .unset, .unset, .unset] [])) t → Steps p.tables e below (s₁.setTop (entryFrame m #[(.int x0), (.int x1), (.int x2), (.long x3), (.int x4), (.int x5)] maxLocals)) t) := by
                                have pre117 : ∀ t, Steps p.tables e below (T100.setTop (mkF m 317 #[.val (.int x0), .val (.int x1), .val (.int x2), .val (.long x3), .second, .val (.int x4), .val (.int x5), .val (.int f0), .val (.int f1), .val (.int f2), .val (.int f3), .val (.int f4), .val (.int (x4 &&& (3 : Int32))), .val (.ref pp), .val (.int sz), .val (.ref b60), .val (.ref b100), .val (.int z5), .val (.int (0 : Int32)), .unset, .unset, .unset] [(.int f0)])) t → Steps p.tables e below (s₁.setTop (entryFrame m #[(.int x0), (.int x1), (.int x2), (.long x3), (.int x4), (.int x5)] maxLocals)) t := fun t k => pre116 t (by
                                  show Steps p.tables e below (T100.setTop (mkF m 315 #[.val (.int x0), .val (.int x1), .val (.int x2), .val (.long x3), .second, .val (.int x4), .val (.int x5), .val (.int f0), .val (.int f1), .val (.int f2), .val (.int f3), .val (.int f4), .val (.int (x4 &&& (3 : Int32))), .val (.ref pp), .val (.int sz), .val (.ref b60), .val (.ref b100), .val (.int z5), .val (.int (0 : Int32)), .unset, .unset, .unset] [])) _
                                  refine XS.iload X100.here hx rfl (hb hby at_315) rfl ?_
                                  show Steps p.tables e below (T100.setTop (mkF m 317 #[.val (.int x0), .val (.int x1), .val (.int x2), .val (.long x3), .second, .val (.int x4), .val (.int x5), .val (.int f0), .val (.int f1), .val (.int f2), .val (.int f3), .val (.int f4), .val (.int (x4 &&& (3 : Int32))), .val (.ref pp), .val (.int sz), .val (.ref b60), .val (.ref b100), .val (.int z5), .val (.int (0 : Int32)), .unset, .unset, .unset] [(.int f0)])) _
                                  exact k)
                                by_cases hc118 : f0 = (0 : Int32)
                                · skip
                                  as_aux_lemma =>
                                    have pre119 : ∀ t, Steps p.tables e below (T100.setTop (mkF m 335 #[.val (.int x0), .val (.int x1), .val (.int x2), .val (.long x3), .second, .val (.int x4), .val (.int x5), .val (.int f0), .val (.int f1), .val (.int f2), .val (.int f3), .val (.int f4), .val (.int (x4 &&& (3 : Int32))), .val (.ref pp), .val (.int sz), .val (.ref b60), .val (.ref b100), .val (.int z5), .val (.int (0 : Int32)), .unset, .unset, .unset] [])) t → Steps p.tables e below (s₁.setTop (entryFrame m #[(.int x0), (.int x1), (.int x2), (.long x3), (.int x4), (.int x5)] maxLocals)) t := fun t k => pre117 t (by
                                      refine XS.ifYes X100.here hx rfl (pc0 := 317) (pc' := 335) rfl (hb hby at_317) rfl ((if0 _ _).trans (teq hc118).1) (by decide) (by decide) ?_
                                      exact k)
                                    as_aux_lemma =>
                                      exact ⟨T100, _, X100.more (by decide) (by decide), rfl, N100, fun t k => pre119 t (castTop (congrArg (fun z_ => (mkF m 335 #[.val (.int x0), .val (.int x1), .val (.int x2), .val (.long x3), .second, .val (.int x4), .val (.int x5), .val (.int f0), .val (.int f1), .val (.int f2), .val (.int f3), .val (.int f4), .val (.int (x4 &&& (3 : Int32))), .val (.ref pp), .val (.int sz), .val (.ref b60), .val (.ref b100), .val (.int z5), .val (.int z_), .unset, .unset, .unset] [])) (show (0 : Int32) = z1 from by rw [hz1e, if_neg (not_not_intro hc118)])) k)⟩
                                · skip
                                  as_aux_lemma =>
                                    obtain ⟨cl120, Ar120, q120, S120, M120, H120, G120⟩ := id V100
                                    have hr120 : (¬ (0 : Int32) < 0 ∧ (0 : Int32) < z5) ∧ (List.map Value.int D5).getD ((0 : Int32)).toNatClampNeg (.int (0 : Int32)) = .int (x0.toInt8.toInt32) := own_rdH (B := ((if f1 = (0 : Int32) then [] else own_l16 x1) ++ ((if f2 = (0 : Int32) then [] else own_l32 x2) ++ ((if f3 = (0 : Int32) then [] else own_l64 x3) ++ ((if f4 = (0 : Int32) then [] else (own_l32 sz ++ PP))))))) (by rw [hD5e, hD4e, hD3e, hD2e, hD1e, if_neg hc118]; simp only [List.append_assoc, List.cons_append, List.nil_append]) hz5
                                    have hin120 : ¬ ((0 : Int32) < 0 ∨ cl120.slots.size ≤ ((0 : Int32)).toNatClampNeg) := inb_of S120 hr120.1
                                    have pre121 : ∀ t, Steps p.tables e below (T100.setTop (mkF m 325 #[.val (.int x0), .val (.int x1), .val (.int x2), .val (.long x3), .second, .val (.int x4), .val (.int x5), .val (.int f0), .val (.int f1), .val (.int f2), .val (.int f3), .val (.int f4), .val (.int (x4 &&& (3 : Int32))), .val (.ref pp), .val (.int sz), .val (.ref b60), .val (.ref b100), .val (.int z5), .val (.int (0 : Int32)), .unset, .unset, .unset] [(.int (x0.toInt8.toInt32))])) t → Steps p.tables e below (s₁.setTop (entryFrame m #[(.int x0), (.int x1), (.int x2), (.long x3), (.int x4), (.int x5)] maxLocals)) t := fun t k => pre117 t (by
                                      refine XS.ifNo X100.here hx rfl (hb hby at_317) rfl ((if0 _ _).trans (feq hc118).1) ?_
                                      show Steps p.tables e below (T100.setTop (mkF m 320 #[.val (.int x0), .val (.int x1), .val (.int x2), .val (.long x3), .second, .val (.int x4), .val (.int x5), .val (.int f0), .val (.int f1), .val (.int f2), .val (.int f3), .val (.int f4), .val (.int (x4 &&& (3 : Int32))), .val (.ref pp), .val (.int sz), .val (.ref b60), .val (.ref b100), .val (.int z5), .val (.int (0 : Int32)), .unset, .unset, .unset] [])) _
                                      refine XS.aload X100.here hx rfl (hb hby at_320) rfl rfl ?_
                                      show Steps p.tables e below (T100.setTop (mkF m 322 #[.val (.int x0), .val (.int x1), .val (.int x2), .val (.long x3), .second, .val (.int x4), .val (.int x5), .val (.int f0), .val (.int f1), .val (.int f2), .val (.int f3), .val (.int f4), .val (.int (x4 &&& (3 : Int32))), .val (.ref pp), .val (.int sz), .val (.ref b60), .val (.ref b100), .val (.int z5), .val (.int (0 : Int32)), .unset, .unset, .unset] [(.ref b100)])) _
                                      refine XS.iload X100.here hx rfl (hb hby at_322) rfl ?_
                                      show Steps p.tables e below (T100.setTop (mkF m 324 #[.val (.int x0), .val (.int x1), .val (.int x2), .val (.long x3), .second, .val (.int x4), .val (.int x5), .val (.int f0), .val (.int f1), .val (.int f2), .val (.int f3), .val (.int f4), .val (.int (x4 &&& (3 : Int32))), .val (.ref pp), .val (.int sz), .val (.ref b60), .val (.ref b100), .val (.int z5), .val (.int (0 : Int32)), .unset, .unset, .unset] [(.int (0 : Int32)), (.ref b100)])) _
                                      refine X100.baloadBytes hx (j := (0 : Int32)) (v := (.int (x0.toInt8.toInt32))) Ar120.1 (State.isArrayOf_alike hZ.alike Ar120.2.1) Ar120.2.2 hin120 (H120.at hin120 hr120.2) (g := (mkF m 324 #[.val (.int x0), .val (.int x1), .val (.int x2), .val (.long x3), .second, .val (.int x4), .val (.int x5), .val (.int f0), .val (.int f1), .val (.int f2), .val (.int f3), .val (.int f4), .val (.int (x4 &&& (3 : Int32))), .val (.ref pp), .val (.int sz), .val (.ref b60), .val (.ref b100), .val (.int z5), .val (.int (0 : Int32)), .unset, .unset, .unset] [(.int (0 : Int32)), (.ref b100)])) rfl rfl (hb hby at_324) _ ?_
                                      exact k)
                                    as_aux_lemma =>
                                      have pre122 : ∀ t, Steps p.tables e below (T100.setTop (mkF m 332 #[.val (.int x0), .val (.int x1), .val (.int x2), .val (.long x3), .second, .val (.int x4), .val (.int x5), .val (.int f0), .val (.int f1), .val (.int f2), .val (.int f3), .val (.int f4), .val (.int (x4 &&& (3 : Int32))), .val (.ref pp), .val (.int sz), .val (.ref b60), .val (.ref b100), .val (.int z5), .val (.int (0 : Int32)), .unset, .unset, .unset] [])) t → Steps p.tables e below (s₁.setTop (entryFrame m #[(.int x0), (.int x1), (.int x2), (.long x3), (.int x4), (.int x5)] maxLocals)) t := fun t k => pre121 t (by
                                        show Steps p.tables e below (T100.setTop (mkF m 325 #[.val (.int x0), .val (.int x1), .val (.int x2), .val (.long x3), .second, .val (.int x4), .val (.int x5), .val (.int f0), .val (.int f1), .val (.int f2), .val (.int f3), .val (.int f4), .val (.int (x4 &&& (3 : Int32))), .val (.ref pp), .val (.int sz), .val (.ref b60), .val (.ref b100), .val (.int z5), .val (.int (0 : Int32)), .unset, .unset, .unset] [(.int (x0.toInt8.toInt32))])) _
                                        refine XS.iloadN X100.here hx rfl (hb hby at_325) rfl ?_
                                        show Steps p.tables e below (T100.setTop (mkF m 326 #[.val (.int x0), .val (.int x1), .val (.int x2), .val (.long x3), .second, .val (.int x4), .val (.int x5), .val (.int f0), .val (.int f1), .val (.int f2), .val (.int f3), .val (.int f4), .val (.int (x4 &&& (3 : Int32))), .val (.ref pp), .val (.int sz), .val (.ref b60), .val (.ref b100), .val (.int z5), .val (.int (0 : Int32)), .unset, .unset, .unset] [(.int x0), (.int (x0.toInt8.toInt32))])) _
                                        refine XS.i2b X100.here hx rfl (hb hby at_326) rfl ?_
                                        show Steps p.tables e below (T100.setTop (mkF m 327 #[.val (.int x0), .val (.int x1), .val (.int x2), .val (.long x3), .second, .val (.int x4), .val (.int x5), .val (.int f0), .val (.int f1), .val (.int f2), .val (.int f3), .val (.int f4), .val (.int (x4 &&& (3 : Int32))), .val (.ref pp), .val (.int sz), .val (.ref b60), .val (.ref b100), .val (.int z5), .val (.int (0 : Int32)), .unset, .unset, .unset] [(.int (x0.toInt8.toInt32)), (.int (x0.toInt8.toInt32))])) _
                                        refine XS.icmpYes X100.here hx rfl (pc0 := 327) (pc' := 332) rfl (hb hby at_327) rfl (teq (rfl : (x0.toInt8.toInt32) = (x0.toInt8.toInt32))).1 (by decide) (by decide) ?_
                                        exact k)
                                      as_aux_lemma =>
                                        have pre123 : ∀ t, Steps p.tables e below (T100.setTop (mkF m 335 #[.val (.int x0), .val (.int x1), .val (.int x2), .val (.long x3), .second, .val (.int x4), .val (.int x5), .val (.int f0), .val (.int f1), .val (.int f2), .val (.int f3), .val (.int f4), .val (.int (x4 &&& (3 : Int32))), .val (.ref pp), .val (.int sz), .val (.ref b60), .val (.ref b100), .val (.int z5), .val (.int (1 : Int32)), .unset, .unset, .unset] [])) t → Steps p.tables e below (s₁.setTop (entryFrame m #[(.int x0), (.int x1), (.int x2), (.long x3), (.int x4), (.int x5)] maxLocals)) t := fun t k => pre122 t (by
                                          show Steps p.tables e below (T100.setTop (mkF m 332 #[.val (.int x0), .val (.int x1), .val (.int x2), .val (.long x3), .second, .val (.int x4), .val (.int x5), .val (.int f0), .val (.int f1), .val (.int f2), .val (.int f3), .val (.int f4), .val (.int (x4 &&& (3 : Int32))), .val (.ref pp), .val (.int sz), .val (.ref b60), .val (.ref b100), .val (.int z5), .val (.int (0 : Int32)), .unset, .unset, .unset] [])) _
                                          refine XS.iinc X100.here hx rfl (hb hby at_332) rfl (l' := #[.val (.int x0), .val (.int x1), .val (.int x2), .val (.long x3), .second, .val (.int x4), .val (.int x5), .val (.int f0), .val (.int f1), .val (.int f2), .val (.int f3), .val (.int f4), .val (.int (x4 &&& (3 : Int32))), .val (.ref pp), .val (.int sz), .val (.ref b60), .val (.ref b100), .val (.int z5), .val (.int (1 : Int32)), .unset, .unset, .unset]) rfl ?_
                                          exact k)
                                        as_aux_lemma =>
                                          exact ⟨T100, _, X100.more (by decide) (by decide), rfl, N100, fun t k => pre123 t (castTop (congrArg (fun z_ => (mkF m 335 #[.val (.int x0), .val (.int x1), .val (.int x2), .val (.long x3), .second, .val (.int x4), .val (.int x5), .val (.int f0), .val (.int f1), .val (.int f2), .val (.int f3), .val (.int f4), .val (.int (x4 &&& (3 : Int32))), .val (.ref pp), .val (.int sz), .val (.ref b60), .val (.ref b100), .val (.int z5), .val (.int z_), .unset, .unset, .unset] [])) (show (1 : Int32) = z1 from by rw [hz1e, if_pos hc118])) k)⟩
                              as_aux_lemma =>
                                obtain ⟨T124, LL124, X124, e124, N124, pre124⟩ : ∃ (T124 : State) (LL124 : List Loc), Stand p l e room_1 s m #[(.int x0), (.int x1), (.int x2), (.long x3), (.int x4), (.int x5)] below meth c T124 LL124 5 422 ∧ T124.heap = T100.heap ∧ Fr n0 LL124 ∧ (∀ t, Steps p.tables e below (T124.setTop (mkF m 356 #[.val (.int x0), .val (.int x1), .val (.int x2), .val (.long x3), .second, .val (.int x4), .val (.int x5), .val (.int f0), .val (.int f1), .val (.int f2), .val (.int f3), .val (.int f4), .val (.int (x4 &&& (3 : Int32))), .val (.ref pp), .val (.int sz), .val (.ref b60), .val (.ref b100), .val (.int z5), .val (.int z2), .unset, .unset, .unset] [])) t → Steps p.tables e below (s₁.setTop (entryFrame m #[(.int x0), (.int x1), (.int x2), (.long x3), (.int x4), (.int x5)] maxLocals)) t) := by
                                  have pre125 : ∀ t, Steps p.tables e below (T115.setTop (mkF m 337 #[.val (.int x0), .val (.int x1), .val (.int x2), .val (.long x3), .second, .val (.int x4), .val (.int x5), .val (.int f0), .val (.int f1), .val (.int f2), .val (.int f3), .val (.int f4), .val (.int (x4 &&& (3 : Int32))), .val (.ref pp), .val (.int sz), .val (.ref b60), .val (.ref b100), .val (.int z5), .val (.int z1), .unset, .unset, .unset] [(.int f1)])) t → Steps p.tables e below (s₁.setTop (entryFrame m #[(.int x0), (.int x1), (.int x2), (.long x3), (.int x4), (.int x5)] maxLocals)) t := fun t k => pre115 t (by
                                    show Steps p.tables e below (T115.setTop (mkF m 335 #[.val (.int x0), .val (.int x1), .val (.int x2), .val (.long x3), .second, .val (.int x4), .val (.int x5), .val (.int f0), .val (.int f1), .val (.int f2), .val (.int f3), .val (.int f4), .val (.int (x4 &&& (3 : Int32))), .val (.ref pp), .val (.int sz), .val (.ref b60), .val (.ref b100), .val (.int z5), .val (.int z1), .unset, .unset, .unset] [])) _
                                    refine XS.iload X115.here hx rfl (hb hby at_335) rfl ?_
                                    show Steps p.tables e below (T115.setTop (mkF m 337 #[.val (.int x0), .val (.int x1), .val (.int x2), .val (.long x3), .second, .val (.int x4), .val (.int x5), .val (.int f0), .val (.int f1), .val (.int f2), .val (.int f3), .val (.int f4), .val (.int (x4 &&& (3 : Int32))), .val (.ref pp), .val (.int sz), .val (.ref b60), .val (.ref b100), .val (.int z5), .val (.int z1), .unset, .unset, .unset] [(.int f1)])) _
                                    exact k)
                                  by_cases hc126 : f1 = (0 : Int32)
                                  · skip
                                    as_aux_lemma =>
                                      have pre127 : ∀ t, Steps p.tables e below (T115.setTop (mkF m 356 #[.val (.int x0), .val (.int x1), .val (.int x2), .val (.long x3), .second, .val (.int x4), .val (.int x5), .val (.int f0), .val (.int f1), .val (.int f2), .val (.int f3), .val (.int f4), .val (.int (x4 &&& (3 : Int32))), .val (.ref pp), .val (.int sz), .val (.ref b60), .val (.ref b100), .val (.int z5), .val (.int z1), .unset, .unset, .unset] [])) t → Steps p.tables e below (s₁.setTop (entryFrame m #[(.int x0), (.int x1), (.int x2), (.long x3), (.int x4), (.int x5)] maxLocals)) t := fun t k => pre125 t (by
                                        refine XS.ifYes X115.here hx rfl (pc0 := 337) (pc' := 356) rfl (hb hby at_337) rfl ((if0 _ _).trans (teq hc126).1) (by decide) (by decide) ?_
                                        exact k)
                                      as_aux_lemma =>
                                        exact ⟨T115, _, X115.more (by decide) (by decide), e115, N115, fun t k => pre127 t (castTop (congrArg (fun z_ => (mkF m 356 #[.val (.int x0), .val (.int x1), .val (.int x2), .val (.long x3), .second, .val (.int x4), .val (.int x5), .val (.int f0), .val (.int f1), .val (.int f2), .val (.int f3), .val (.int f4), .val (.int (x4 &&& (3 : Int32))), .val (.ref pp), .val (.int sz), .val (.ref b60), .val (.ref b100), .val (.int z5), .val (.int z_), .unset, .unset, .unset] [])) (show z1 = z2 from by rw [hz2e, if_pos hc126, Int32.add_zero])) k)⟩
                                  · skip
                                    as_aux_lemma =>
                                      obtain ⟨_, _, ⟨T128, L128, k128, n128⟩, -, X128, ⟨Lc128, hQ128, l128, y128, z128⟩, st128⟩ := Jvm.LawKit.callS X115 hx (y := (⟨"com/example/vigilant_consumer/vigilantconsumer/ProtocolWriterToByteArrayPinLaw", "int16At", "([BII)Z"⟩ : MethodName)) hown (mvT hZ (hw _ (List.mem_of_getElem? (i := 55) rfl))) (mvT hZ (hw _ (List.mem_of_getElem? (i := 56) rfl))) (mvT hZ (hw _ (List.mem_of_getElem? (i := 57) rfl))) (mvT hZ (hw _ (List.mem_of_getElem? (i := 58) rfl))) (by decide) (backOf (W := 0) (own_r16 l Z a0 hw [] b100 z1 x1 kq100 z5 D5 D1 ((if f2 = (0 : Int32) then [] else own_l32 x2) ++ ((if f3 = (0 : Int32) then [] else own_l64 x3) ++ ((if f4 = (0 : Int32) then [] else (own_l32 sz ++ PP))))) T100.heap n0 Z101 V100 (by rw [hD5e, hD4e, hD3e, hD2e, if_neg hc126]; simp only [List.append_assoc, List.nil_append]) hz1 hz5 (by have q_ := hb5_; omega)) hZ (hw _ (List.mem_of_getElem? (i := 58) rfl)) (hw _ (List.mem_of_getElem? (i := 57) rfl)) (by decide) (by decide)) (g := (mkF m 345 #[.val (.int x0), .val (.int x1), .val (.int x2), .val (.long x3), .second, .val (.int x4), .val (.int x5), .val (.int f0), .val (.int f1), .val (.int f2), .val (.int f3), .val (.int f4), .val (.int (x4 &&& (3 : Int32))), .val (.ref pp), .val (.int sz), .val (.ref b60), .val (.ref b100), .val (.int z5), .val (.int z1), .unset, .unset, .unset] [(.int x1), (.int z1), (.ref b100)])) rfl (by rw [hml]; rfl) (argsL := [(.ref b100), (.int z1), (.int x1)]) (rest := []) (lenOf own_pd4 rfl) rfl (by show 2 * 0 + _ ≤ _; exact Nat.le_of_eq rfl) (hb hby at_345) (fun _ _ => ⟨rfl, e115, (by decide : 5 + 0 ≤ _), (by decide : 422 + 0 ≤ _)⟩)
                                      dsimp only [Pt.U, Pt.locs, Pt.cells, Pt.slots] at X128 l128 y128 z128 st128 hQ128
                                      subst l128 y128 z128
                                      obtain ⟨rfl, N128q, e128⟩ := hQ128
                                      have N128 := Fr.app N115 N128q
                                      have pre129 : ∀ t, Steps p.tables e below (T128.setTop (mkF m 356 #[.val (.int x0), .val (.int x1), .val (.int x2), .val (.long x3), .second, .val (.int x4), .val (.int x5), .val (.int f0), .val (.int f1), .val (.int f2), .val (.int f3), .val (.int f4), .val (.int (x4 &&& (3 : Int32))), .val (.ref pp), .val (.int sz), .val (.ref b60), .val (.ref b100), .val (.int z5), .val (.int (z1 + (2 : Int32))), .unset, .unset, .unset] [])) t → Steps p.tables e below (s₁.setTop (entryFrame m #[(.int x0), (.int x1), (.int x2), (.long x3), (.int x4), (.int x5)] maxLocals)) t := fun t k => pre125 t (by
                                        refine XS.ifNo X115.here hx rfl (hb hby at_337) rfl ((if0 _ _).trans (feq hc126).1) ?_
                                        show Steps p.tables e below (T115.setTop (mkF m 340 #[.val (.int x0), .val (.int x1), .val (.int x2), .val (.long x3), .second, .val (.int x4), .val (.int x5), .val (.int f0), .val (.int f1), .val (.int f2), .val (.int f3), .val (.int f4), .val (.int (x4 &&& (3 : Int32))), .val (.ref pp), .val (.int sz), .val (.ref b60), .val (.ref b100), .val (.int z5), .val (.int z1), .unset, .unset, .unset] [])) _
                                        refine XS.aload X115.here hx rfl (hb hby at_340) rfl rfl ?_
                                        show Steps p.tables e below (T115.setTop (mkF m 342 #[.val (.int x0), .val (.int x1), .val (.int x2), .val (.long x3), .second, .val (.int x4), .val (.int x5), .val (.int f0), .val (.int f1), .val (.int f2), .val (.int f3), .val (.int f4), .val (.int (x4 &&& (3 : Int32))), .val (.ref pp), .val (.int sz), .val (.ref b60), .val (.ref b100), .val (.int z5), .val (.int z1), .unset, .unset, .unset] [(.ref b100)])) _
                                        refine XS.iload X115.here hx rfl (hb hby at_342) rfl ?_
                                        show Steps p.tables e below (T115.setTop (mkF m 344 #[.val (.int x0), .val (.int x1), .val (.int x2), .val (.long x3), .second, .val (.int x4), .val (.int x5), .val (.int f0), .val (.int f1), .val (.int f2), .val (.int f3), .val (.int f4), .val (.int (x4 &&& (3 : Int32))), .val (.ref pp), .val (.int sz), .val (.ref b60), .val (.ref b100), .val (.int z5), .val (.int z1), .unset, .unset, .unset] [(.int z1), (.ref b100)])) _
                                        refine XS.iloadN X115.here hx rfl (hb hby at_344) rfl ?_
                                        show Steps p.tables e below (T115.setTop (mkF m 345 #[.val (.int x0), .val (.int x1), .val (.int x2), .val (.long x3), .second, .val (.int x4), .val (.int x5), .val (.int f0), .val (.int f1), .val (.int f2), .val (.int f3), .val (.int f4), .val (.int (x4 &&& (3 : Int32))), .val (.ref pp), .val (.int sz), .val (.ref b60), .val (.ref b100), .val (.int z5), .val (.int z1), .unset, .unset, .unset] [(.int x1), (.int z1), (.ref b100)])) _
                                        refine st128 _ ?_
                                        show Steps p.tables e below (T128.setTop (mkF m 348 #[.val (.int x0), .val (.int x1), .val (.int x2), .val (.long x3), .second, .val (.int x4), .val (.int x5), .val (.int f0), .val (.int f1), .val (.int f2), .val (.int f3), .val (.int f4), .val (.int (x4 &&& (3 : Int32))), .val (.ref pp), .val (.int sz), .val (.ref b60), .val (.ref b100), .val (.int z5), .val (.int z1), .unset, .unset, .unset] [(.int (1 : Int32))])) _
                                        refine XS.ifYes X128.here hx rfl (pc0 := 348) (pc' := 353) rfl (hb hby at_348) rfl ((if0 _ _).trans (feq (by decide : ¬ ((1 : Int32) = (0 : Int32)))).2) (by decide) (by decide) ?_
                                        show Steps p.tables e below (T128.setTop (mkF m 353 #[.val (.int x0), .val (.int x1), .val (.int x2), .val (.long x3), .second, .val (.int x4), .val (.int x5), .val (.int f0), .val (.int f1), .val (.int f2), .val (.int f3), .val (.int f4), .val (.int (x4 &&& (3 : Int32))), .val (.ref pp), .val (.int sz), .val (.ref b60), .val (.ref b100), .val (.int z5), .val (.int z1), .unset, .unset, .unset] [])) _
                                        refine XS.iinc X128.here hx rfl (hb hby at_353) rfl (l' := #[.val (.int x0), .val (.int x1), .val (.int x2), .val (.long x3), .second, .val (.int x4), .val (.int x5), .val (.int f0), .val (.int f1), .val (.int f2), .val (.int f3), .val (.int f4), .val (.int (x4 &&& (3 : Int32))), .val (.ref pp), .val (.int sz), .val (.ref b60), .val (.ref b100), .val (.int z5), .val (.int (z1 + (2 : Int32))), .unset, .unset, .unset]) rfl ?_
                                        exact k)
                                      as_aux_lemma =>
                                        exact ⟨T128, _, X128.more (by decide) (by decide), e128, N128, fun t k => pre129 t (castTop (congrArg (fun z_ => (mkF m 356 #[.val (.int x0), .val (.int x1), .val (.int x2), .val (.long x3), .second, .val (.int x4), .val (.int x5), .val (.int f0), .val (.int f1), .val (.int f2), .val (.int f3), .val (.int f4), .val (.int (x4 &&& (3 : Int32))), .val (.ref pp), .val (.int sz), .val (.ref b60), .val (.ref b100), .val (.int z5), .val (.int z_), .unset, .unset, .unset] [])) (show (z1 + (2 : Int32)) = z2 from by rw [hz2e, if_neg hc126])) k)⟩
                                as_aux_lemma =>
                                  obtain ⟨T130, LL130, X130, e130, N130, pre130⟩ : ∃ (T130 : State) (LL130 : List Loc), Stand p l e room_1 s m #[(.int x0), (.int x1), (.int x2), (.long x3), (.int x4), (.int x5)] below meth c T130 LL130 5 422 ∧ T130.heap = T100.heap ∧ Fr n0 LL130 ∧ (∀ t, Steps p.tables e below (T130.setTop (mkF m 377 #[.val (.int x0), .val (.int x1), .val (.int x2), .val (.long x3), .second, .val (.int x4), .val (.int x5), .val (.int f0), .val (.int f1), .val (.int f2), .val (.int f3), .val (.int f4), .val (.int (x4 &&& (3 : Int32))), .val (.ref pp), .val (.int sz), .val (.ref b60), .val (.ref b100), .val (.int z5), .val (.int z3), .unset, .unset, .unset] [])) t → Steps p.tables e below (s₁.setTop (entryFrame m #[(.int x0), (.int x1), (.int x2), (.long x3), (.int x4), (.int x5)] maxLocals)) t) := by
                                    have pre131 : ∀ t, Steps p.tables e below (T124.setTop (mkF m 358 #[.val (.int x0), .val (.int x1), .val (.int x2), .val (.long x3), .second, .val (.int x4), .val (.int x5), .val (.int f0), .val (.int f1), .val (.int f2), .val (.int f3), .val (.int f4), .val (.int (x4 &&& (3 : Int32))), .val (.ref pp), .val (.int sz), .val (.ref b60), .val (.ref b100), .val (.int z5), .val (.int z2), .unset, .unset, .unset] [(.int f2)])) t → Steps p.tables e below (s₁.setTop (entryFrame m #[(.int x0), (.int x1), (.int x2), (.long x3), (.int x4), (.int x5)] maxLocals)) t := fun t k => pre124 t (by
                                      show Steps p.tables e below (T124.setTop (mkF m 356 #[.val (.int x0), .val (.int x1), .val (.int x2), .val (.long x3), .second, .val (.int x4), .val (.int x5), .val (.int f0), .val (.int f1), .val (.int f2), .val (.int f3), .val (.int f4), .val (.int (x4 &&& (3 : Int32))), .val (.ref pp), .val (.int sz), .val (.ref b60), .val (.ref b100), .val (.int z5), .val (.int z2), .unset, .unset, .unset] [])) _
                                      refine XS.iload X124.here hx rfl (hb hby at_356) rfl ?_
                                      show Steps p.tables e below (T124.setTop (mkF m 358 #[.val (.int x0), .val (.int x1), .val (.int x2), .val (.long x3), .second, .val (.int x4), .val (.int x5), .val (.int f0), .val (.int f1), .val (.int f2), .val (.int f3), .val (.int f4), .val (.int (x4 &&& (3 : Int32))), .val (.ref pp), .val (.int sz), .val (.ref b60), .val (.ref b100), .val (.int z5), .val (.int z2), .unset, .unset, .unset] [(.int f2)])) _
                                      exact k)
                                    by_cases hc132 : f2 = (0 : Int32)
                                    · skip
                                      as_aux_lemma =>
                                        have pre133 : ∀ t, Steps p.tables e below (T124.setTop (mkF m 377 #[.val (.int x0), .val (.int x1), .val (.int x2), .val (.long x3), .second, .val (.int x4), .val (.int x5), .val (.int f0), .val (.int f1), .val (.int f2), .val (.int f3), .val (.int f4), .val (.int (x4 &&& (3 : Int32))), .val (.ref pp), .val (.int sz), .val (.ref b60), .val (.ref b100), .val (.int z5), .val (.int z2), .unset, .unset, .unset] [])) t → Steps p.tables e below (s₁.setTop (entryFrame m #[(.int x0), (.int x1), (.int x2), (.long x3), (.int x4), (.int x5)] maxLocals)) t := fun t k => pre131 t (by
                                          refine XS.ifYes X124.here hx rfl (pc0 := 358) (pc' := 377) rfl (hb hby at_358) rfl ((if0 _ _).trans (teq hc132).1) (by decide) (by decide) ?_
                                          exact k)
                                        as_aux_lemma =>
                                          exact ⟨T124, _, X124.more (by decide) (by decide), e124, N124, fun t k => pre133 t (castTop (congrArg (fun z_ => (mkF m 377 #[.val (.int x0), .val (.int x1), .val (.int x2), .val (.long x3), .second, .val (.int x4), .val (.int x5), .val (.int f0), .val (.int f1), .val (.int f2), .val (.int f3), .val (.int f4), .val (.int (x4 &&& (3 : Int32))), .val (.ref pp), .val (.int sz), .val (.ref b60), .val (.ref b100), .val (.int z5), .val (.int z_), .unset, .unset, .unset] [])) (show z2 = z3 from by rw [hz3e, if_pos hc132, Int32.add_zero])) k)⟩
                                    · skip
                                      as_aux_lemma =>
                                        obtain ⟨_, _, ⟨T134, L134, k134, n134⟩, -, X134, ⟨Lc134, hQ134, l134, y134, z134⟩, st134⟩ := Jvm.LawKit.callS X124 hx (y := (⟨"com/example/vigilant_consumer/vigilantconsumer/ProtocolWriterToByteArrayPinLaw", "int32At", "([BII)Z"⟩ : MethodName)) hown (mvT hZ (hw _ (List.mem_of_getElem? (i := 59) rfl))) (mvT hZ (hw _ (List.mem_of_getElem? (i := 60) rfl))) (mvT hZ (hw _ (List.mem_of_getElem? (i := 57) rfl))) (mvT hZ (hw _ (List.mem_of_getElem? (i := 61) rfl))) (by decide) (backOf (W := 0) (own_r32 l Z a0 hw [] b100 z2 x2 kq100 z5 D5 D2 ((if f3 = (0 : Int32) then [] else own_l64 x3) ++ ((if f4 = (0 : Int32) then [] else (own_l32 sz ++ PP)))) T100.heap n0 Z101 V100 (by rw [hD5e, hD4e, hD3e, if_neg hc132]; simp only [List.append_assoc, List.nil_append]) hz2 hz5 (by have q_ := hb5_; omega)) hZ (hw _ (List.mem_of_getElem? (i := 61) rfl)) (hw _ (List.mem_of_getElem? (i := 57) rfl)) (by decide) (by decide)) (g := (mkF m 366 #[.val (.int x0), .val (.int x1), .val (.int x2), .val (.long x3), .second, .val (.int x4), .val (.int x5), .val (.int f0), .val (.int f1), .val (.int f2), .val (.int f3), .val (.int f4), .val (.int (x4 &&& (3 : Int32))), .val (.ref pp), .val (.int sz), .val (.ref b60), .val (.ref b100), .val (.int z5), .val (.int z2), .unset, .unset, .unset] [(.int x2), (.int z2), (.ref b100)])) rfl (by rw [hml]; rfl) (argsL := [(.ref b100), (.int z2), (.int x2)]) (rest := []) (lenOf own_pd4 rfl) rfl (by show 2 * 0 + _ ≤ _; exact Nat.le_of_eq rfl) (hb hby at_366) (fun _ _ => ⟨rfl, e124, (by decide : 5 + 0 ≤ _), (by decide : 422 + 0 ≤ _)⟩)
                                        dsimp only [Pt.U, Pt.locs, Pt.cells, Pt.slots] at X134 l134 y134 z134 st134 hQ134
                                        subst l134 y134 z134
                                        obtain ⟨rfl, N134q, e134⟩ := hQ134
                                        have N134 := Fr.app N124 N134q
                                        have pre135 : ∀ t, Steps p.tables e below (T134.setTop (mkF m 377 #[.val (.int x0), .val (.int x1), .val (.int x2), .val (.long x3), .second, .val (.int x4), .val (.int x5), .val (.int f0), .val (.int f1), .val (.int f2), .val (.int f3), .val (.int f4), .val (.int (x4 &&& (3 : Int32))), .val (.ref pp), .val (.int sz), .val (.ref b60), .val (.ref b100), .val (.int z5), .val (.int (z2 + (4 : Int32))), .unset, .unset, .unset] [])) t → Steps p.tables e below (s₁.setTop (entryFrame m #[(.int x0), (.int x1), (.int x2), (.long x3), (.int x4), (.int x5)] maxLocals)) t := fun t k => pre131 t (by
                                          refine XS.ifNo X124.here hx rfl (hb hby at_358) rfl ((if0 _ _).trans (feq hc132).1) ?_
                                          show Steps p.tables e below (T124.setTop (mkF m 361 #[.val (.int x0), .val (.int x1), .val (.int x2), .val (.long x3), .second, .val (.int x4), .val (.int x5), .val (.int f0), .val (.int f1), .val (.int f2), .val (.int f3), .val (.int f4), .val (.int (x4 &&& (3 : Int32))), .val (.ref pp), .val (.int sz), .val (.ref b60), .val (.ref b100), .val (.int z5), .val (.int z2), .unset, .unset, .unset] [])) _
                                          refine XS.aload X124.here hx rfl (hb hby at_361) rfl rfl ?_
                                          show Steps p.tables e below (T124.setTop (mkF m 363 #[.val (.int x0), .val (.int x1), .val (.int x2), .val (.long x3), .second, .val (.int x4), .val (.int x5), .val (.int f0), .val (.int f1), .val (.int f2), .val (.int f3), .val (.int f4), .val (.int (x4 &&& (3 : Int32))), .val (.ref pp), .val (.int sz), .val (.ref b60), .val (.ref b100), .val (.int z5), .val (.int z2), .unset, .unset, .unset] [(.ref b100)])) _
                                          refine XS.iload X124.here hx rfl (hb hby at_363) rfl ?_
                                          show Steps p.tables e below (T124.setTop (mkF m 365 #[.val (.int x0), .val (.int x1), .val (.int x2), .val (.long x3), .second, .val (.int x4), .val (.int x5), .val (.int f0), .val (.int f1), .val (.int f2), .val (.int f3), .val (.int f4), .val (.int (x4 &&& (3 : Int32))), .val (.ref pp), .val (.int sz), .val (.ref b60), .val (.ref b100), .val (.int z5), .val (.int z2), .unset, .unset, .unset] [(.int z2), (.ref b100)])) _
                                          refine XS.iloadN X124.here hx rfl (hb hby at_365) rfl ?_
                                          show Steps p.tables e below (T124.setTop (mkF m 366 #[.val (.int x0), .val (.int x1), .val (.int x2), .val (.long x3), .second, .val (.int x4), .val (.int x5), .val (.int f0), .val (.int f1), .val (.int f2), .val (.int f3), .val (.int f4), .val (.int (x4 &&& (3 : Int32))), .val (.ref pp), .val (.int sz), .val (.ref b60), .val (.ref b100), .val (.int z5), .val (.int z2), .unset, .unset, .unset] [(.int x2), (.int z2), (.ref b100)])) _
                                          refine st134 _ ?_
                                          show Steps p.tables e below (T134.setTop (mkF m 369 #[.val (.int x0), .val (.int x1), .val (.int x2), .val (.long x3), .second, .val (.int x4), .val (.int x5), .val (.int f0), .val (.int f1), .val (.int f2), .val (.int f3), .val (.int f4), .val (.int (x4 &&& (3 : Int32))), .val (.ref pp), .val (.int sz), .val (.ref b60), .val (.ref b100), .val (.int z5), .val (.int z2), .unset, .unset, .unset] [(.int (1 : Int32))])) _
                                          refine XS.ifYes X134.here hx rfl (pc0 := 369) (pc' := 374) rfl (hb hby at_369) rfl ((if0 _ _).trans (feq (by decide : ¬ ((1 : Int32) = (0 : Int32)))).2) (by decide) (by decide) ?_
                                          show Steps p.tables e below (T134.setTop (mkF m 374 #[.val (.int x0), .val (.int x1), .val (.int x2), .val (.long x3), .second, .val (.int x4), .val (.int x5), .val (.int f0), .val (.int f1), .val (.int f2), .val (.int f3), .val (.int f4), .val (.int (x4 &&& (3 : Int32))), .val (.ref pp), .val (.int sz), .val (.ref b60), .val (.ref b100), .val (.int z5), .val (.int z2), .unset, .unset, .unset] [])) _
                                          refine XS.iinc X134.here hx rfl (hb hby at_374) rfl (l' := #[.val (.int x0), .val (.int x1), .val (.int x2), .val (.long x3), .second, .val (.int x4), .val (.int x5), .val (.int f0), .val (.int f1), .val (.int f2), .val (.int f3), .val (.int f4), .val (.int (x4 &&& (3 : Int32))), .val (.ref pp), .val (.int sz), .val (.ref b60), .val (.ref b100), .val (.int z5), .val (.int (z2 + (4 : Int32))), .unset, .unset, .unset]) rfl ?_
                                          exact k)
                                        as_aux_lemma =>
                                          exact ⟨T134, _, X134.more (by decide) (by decide), e134, N134, fun t k => pre135 t (castTop (congrArg (fun z_ => (mkF m 377 #[.val (.int x0), .val (.int x1), .val (.int x2), .val (.long x3), .second, .val (.int x4), .val (.int x5), .val (.int f0), .val (.int f1), .val (.int f2), .val (.int f3), .val (.int f4), .val (.int (x4 &&& (3 : Int32))), .val (.ref pp), .val (.int sz), .val (.ref b60), .val (.ref b100), .val (.int z5), .val (.int z_), .unset, .unset, .unset] [])) (show (z2 + (4 : Int32)) = z3 from by rw [hz3e, if_neg hc132])) k)⟩
                                  as_aux_lemma =>
                                    obtain ⟨T136, LL136, X136, e136, N136, pre136⟩ : ∃ (T136 : State) (LL136 : List Loc), Stand p l e room_1 s m #[(.int x0), (.int x1), (.int x2), (.long x3), (.int x4), (.int x5)] below meth c T136 LL136 5 422 ∧ T136.heap = T100.heap ∧ Fr n0 LL136 ∧ (∀ t, Steps p.tables e below (T136.setTop (mkF m 398 #[.val (.int x0), .val (.int x1), .val (.int x2), .val (.long x3), .second, .val (.int x4), .val (.int x5), .val (.int f0), .val (.int f1), .val (.int f2), .val (.int f3), .val (.int f4), .val (.int (x4 &&& (3 : Int32))), .val (.ref pp), .val (.int sz), .val (.ref b60), .val (.ref b100), .val (.int z5), .val (.int z4), .unset, .unset, .unset] [])) t → Steps p.tables e below (s₁.setTop (entryFrame m #[(.int x0), (.int x1), (.int x2), (.long x3), (.int x4), (.int x5)] maxLocals)) t) := by
                                      have pre137 : ∀ t, Steps p.tables e below (T130.setTop (mkF m 379 #[.val (.int x0), .val (.int x1), .val (.int x2), .val (.long x3), .second, .val (.int x4), .val (.int x5), .val (.int f0), .val (.int f1), .val (.int f2), .val (.int f3), .val (.int f4), .val (.int (x4 &&& (3 : Int32))), .val (.ref pp), .val (.int sz), .val (.ref b60), .val (.ref b100), .val (.int z5), .val (.int z3), .unset, .unset, .unset] [(.int f3)])) t → Steps p.tables e below (s₁.setTop (entryFrame m #[(.int x0), (.int x1), (.int x2), (.long x3), (.int x4), (.int x5)] maxLocals)) t := fun t k => pre130 t (by
                                        show Steps p.tables e below (T130.setTop (mkF m 377 #[.val (.int x0), .val (.int x1), .val (.int x2), .val (.long x3), .second, .val (.int x4), .val (.int x5), .val (.int f0), .val (.int f1), .val (.int f2), .val (.int f3), .val (.int f4), .val (.int (x4 &&& (3 : Int32))), .val (.ref pp), .val (.int sz), .val (.ref b60), .val (.ref b100), .val (.int z5), .val (.int z3), .unset, .unset, .unset] [])) _
                                        refine XS.iload X130.here hx rfl (hb hby at_377) rfl ?_
                                        show Steps p.tables e below (T130.setTop (mkF m 379 #[.val (.int x0), .val (.int x1), .val (.int x2), .val (.long x3), .second, .val (.int x4), .val (.int x5), .val (.int f0), .val (.int f1), .val (.int f2), .val (.int f3), .val (.int f4), .val (.int (x4 &&& (3 : Int32))), .val (.ref pp), .val (.int sz), .val (.ref b60), .val (.ref b100), .val (.int z5), .val (.int z3), .unset, .unset, .unset] [(.int f3)])) _
                                        exact k)
                                      by_cases hc138 : f3 = (0 : Int32)
                                      · skip
                                        as_aux_lemma =>
                                          have pre139 : ∀ t, Steps p.tables e below (T130.setTop (mkF m 398 #[.val (.int x0), .val (.int x1), .val (.int x2), .val (.long x3), .second, .val (.int x4), .val (.int x5), .val (.int f0), .val (.int f1), .val (.int f2), .val (.int f3), .val (.int f4), .val (.int (x4 &&& (3 : Int32))), .val (.ref pp), .val (.int sz), .val (.ref b60), .val (.ref b100), .val (.int z5), .val (.int z3), .unset, .unset, .unset] [])) t → Steps p.tables e below (s₁.setTop (entryFrame m #[(.int x0), (.int x1), (.int x2), (.long x3), (.int x4), (.int x5)] maxLocals)) t := fun t k => pre137 t (by
                                            refine XS.ifYes X130.here hx rfl (pc0 := 379) (pc' := 398) rfl (hb hby at_379) rfl ((if0 _ _).trans (teq hc138).1) (by decide) (by decide) ?_
                                            exact k)
                                          as_aux_lemma =>
                                            exact ⟨T130, _, X130.more (by decide) (by decide), e130, N130, fun t k => pre139 t (castTop (congrArg (fun z_ => (mkF m 398 #[.val (.int x0), .val (.int x1), .val (.int x2), .val (.long x3), .second, .val (.int x4), .val (.int x5), .val (.int f0), .val (.int f1), .val (.int f2), .val (.int f3), .val (.int f4), .val (.int (x4 &&& (3 : Int32))), .val (.ref pp), .val (.int sz), .val (.ref b60), .val (.ref b100), .val (.int z5), .val (.int z_), .unset, .unset, .unset] [])) (show z3 = z4 from by rw [hz4e, if_pos hc138, Int32.add_zero])) k)⟩
                                      · skip
                                        as_aux_lemma =>
                                          obtain ⟨_, _, ⟨T140, L140, k140, n140⟩, -, X140, ⟨Lc140, hQ140, l140, y140, z140⟩, st140⟩ := Jvm.LawKit.callS X130 hx (y := (⟨"com/example/vigilant_consumer/vigilantconsumer/ProtocolWriterToByteArrayPinLaw", "int64At", "([BIJ)Z"⟩ : MethodName)) hown (mvT hZ (hw _ (List.mem_of_getElem? (i := 62) rfl))) (mvT hZ (hw _ (List.mem_of_getElem? (i := 63) rfl))) (mvT hZ (hw _ (List.mem_of_getElem? (i := 57) rfl))) (mvT hZ (hw _ (List.mem_of_getElem? (i := 64) rfl))) (by decide) (backOf (W := 0) (own_r64 l Z a0 hw [] b100 z3 x3 kq100 z5 D5 D3 ((if f4 = (0 : Int32) then [] else (own_l32 sz ++ PP))) T100.heap n0 Z101 V100 (by rw [hD5e, hD4e, if_neg hc138]; simp only [List.append_assoc, List.nil_append]) hz3 hz5 (by have q_ := hb5_; omega)) hZ (hw _ (List.mem_of_getElem? (i := 64) rfl)) (hw _ (List.mem_of_getElem? (i := 57) rfl)) (by decide) (by decide)) (g := (mkF m 387 #[.val (.int x0), .val (.int x1), .val (.int x2), .val (.long x3), .second, .val (.int x4), .val (.int x5), .val (.int f0), .val (.int f1), .val (.int f2), .val (.int f3), .val (.int f4), .val (.int (x4 &&& (3 : Int32))), .val (.ref pp), .val (.int sz), .val (.ref b60), .val (.ref b100), .val (.int z5), .val (.int z3), .unset, .unset, .unset] [(.long x3), (.int z3), (.ref b100)])) rfl (by rw [hml]; rfl) (argsL := [(.ref b100), (.int z3), (.long x3)]) (rest := []) (lenOf own_pd8 rfl) rfl (by show 2 * 0 + _ ≤ _; exact Nat.le_of_eq rfl) (hb hby at_387) (fun _ _ => ⟨rfl, e130, (by decide : 5 + 0 ≤ _), (by decide : 422 + 0 ≤ _)⟩)
                                          dsimp only [Pt.U, Pt.locs, Pt.cells, Pt.slots] at X140 l140 y140 z140 st140 hQ140
                                          subst l140 y140 z140
                                          obtain ⟨rfl, N140q, e140⟩ := hQ140
                                          have N140 := Fr.app N130 N140q
                                          have pre141 : ∀ t, Steps p.tables e below (T140.setTop (mkF m 398 #[.val (.int x0), .val (.int x1), .val (.int x2), .val (.long x3), .second, .val (.int x4), .val (.int x5), .val (.int f0), .val (.int f1), .val (.int f2), .val (.int f3), .val (.int f4), .val (.int (x4 &&& (3 : Int32))), .val (.ref pp), .val (.int sz), .val (.ref b60), .val (.ref b100), .val (.int z5), .val (.int (z3 + (8 : Int32))), .unset, .unset, .unset] [])) t → Steps p.tables e below (s₁.setTop (entryFrame m #[(.int x0), (.int x1), (.int x2), (.long x3), (.int x4), (.int x5)] maxLocals)) t := fun t k => pre137 t (by
                                            refine XS.ifNo X130.here hx rfl (hb hby at_379) rfl ((if0 _ _).trans (feq hc138).1) ?_
                                            show Steps p.tables e below (T130.setTop (mkF m 382 #[.val (.int x0), .val (.int x1), .val (.int x2), .val (.long x3), .second, .val (.int x4), .val (.int x5), .val (.int f0), .val (.int f1), .val (.int f2), .val (.int f3), .val (.int f4), .val (.int (x4 &&& (3 : Int32))), .val (.ref pp), .val (.int sz), .val (.ref b60), .val (.ref b100), .val (.int z5), .val (.int z3), .unset, .unset, .unset] [])) _
                                            refine XS.aload X130.here hx rfl (hb hby at_382) rfl rfl ?_
                                            show Steps p.tables e below (T130.setTop (mkF m 384 #[.val (.int x0), .val (.int x1), .val (.int x2), .val (.long x3), .second, .val (.int x4), .val (.int x5), .val (.int f0), .val (.int f1), .val (.int f2), .val (.int f3), .val (.int f4), .val (.int (x4 &&& (3 : Int32))), .val (.ref pp), .val (.int sz), .val (.ref b60), .val (.ref b100), .val (.int z5), .val (.int z3), .unset, .unset, .unset] [(.ref b100)])) _
                                            refine XS.iload X130.here hx rfl (hb hby at_384) rfl ?_
                                            show Steps p.tables e below (T130.setTop (mkF m 386 #[.val (.int x0), .val (.int x1), .val (.int x2), .val (.long x3), .second, .val (.int x4), .val (.int x5), .val (.int f0), .val (.int f1), .val (.int f2), .val (.int f3), .val (.int f4), .val (.int (x4 &&& (3 : Int32))), .val (.ref pp), .val (.int sz), .val (.ref b60), .val (.ref b100), .val (.int z5), .val (.int z3), .unset, .unset, .unset] [(.int z3), (.ref b100)])) _
                                            refine XS.lloadN X130.here hx rfl (hb hby at_386) rfl ?_
                                            show Steps p.tables e below (T130.setTop (mkF m 387 #[.val (.int x0), .val (.int x1), .val (.int x2), .val (.long x3), .second, .val (.int x4), .val (.int x5), .val (.int f0), .val (.int f1), .val (.int f2), .val (.int f3), .val (.int f4), .val (.int (x4 &&& (3 : Int32))), .val (.ref pp), .val (.int sz), .val (.ref b60), .val (.ref b100), .val (.int z5), .val (.int z3), .unset, .unset, .unset] [(.long x3), (.int z3), (.ref b100)])) _
                                            refine st140 _ ?_
                                            show Steps p.tables e below (T140.setTop (mkF m 390 #[.val (.int x0), .val (.int x1), .val (.int x2), .val (.long x3), .second, .val (.int x4), .val (.int x5), .val (.int f0), .val (.int f1), .val (.int f2), .val (.int f3), .val (.int f4), .val (.int (x4 &&& (3 : Int32))), .val (.ref pp), .val (.int sz), .val (.ref b60), .val (.ref b100), .val (.int z5), .val (.int z3), .unset, .unset, .unset] [(.int (1 : Int32))])) _
                                            refine XS.ifYes X140.here hx rfl (pc0 := 390) (pc' := 395) rfl (hb hby at_390) rfl ((if0 _ _).trans (feq (by decide : ¬ ((1 : Int32) = (0 : Int32)))).2) (by decide) (by decide) ?_
                                            show Steps p.tables e below (T140.setTop (mkF m 395 #[.val (.int x0), .val (.int x1), .val (.int x2), .val (.long x3), .second, .val (.int x4), .val (.int x5), .val (.int f0), .val (.int f1), .val (.int f2), .val (.int f3), .val (.int f4), .val (.int (x4 &&& (3 : Int32))), .val (.ref pp), .val (.int sz), .val (.ref b60), .val (.ref b100), .val (.int z5), .val (.int z3), .unset, .unset, .unset] [])) _
                                            refine XS.iinc X140.here hx rfl (hb hby at_395) rfl (l' := #[.val (.int x0), .val (.int x1), .val (.int x2), .val (.long x3), .second, .val (.int x4), .val (.int x5), .val (.int f0), .val (.int f1), .val (.int f2), .val (.int f3), .val (.int f4), .val (.int (x4 &&& (3 : Int32))), .val (.ref pp), .val (.int sz), .val (.ref b60), .val (.ref b100), .val (.int z5), .val (.int (z3 + (8 : Int32))), .unset, .unset, .unset]) rfl ?_
                                            exact k)
                                          as_aux_lemma =>
                                            exact ⟨T140, _, X140.more (by decide) (by decide), e140, N140, fun t k => pre141 t (castTop (congrArg (fun z_ => (mkF m 398 #[.val (.int x0), .val (.int x1), .val (.int x2), .val (.long x3), .second, .val (.int x4), .val (.int x5), .val (.int f0), .val (.int f1), .val (.int f2), .val (.int f3), .val (.int f4), .val (.int (x4 &&& (3 : Int32))), .val (.ref pp), .val (.int sz), .val (.ref b60), .val (.ref b100), .val (.int z5), .val (.int z_), .unset, .unset, .unset] [])) (show (z3 + (8 : Int32)) = z4 from by rw [hz4e, if_neg hc138])) k)⟩
                                    as_aux_lemma =>
                                      obtain ⟨T142, LL142, ps, X142, e142, N142, pre142⟩ : ∃ (T142 : State) (LL142 : List Loc) (ps : Int32), Stand p l e room_1 s m #[(.int x0), (.int x1), (.int x2), (.long x3), (.int x4), (.int x5)] below meth c T142 LL142 5 422 ∧ T142.heap = T100.heap ∧ Fr n0 LL142 ∧ (∀ t, Steps p.tables e below (T142.setTop (mkF m 510 #[.val (.int x0), .val (.int x1), .val (.int x2), .val (.long x3), .second, .val (.int x4), .val (.int x5), .val (.int f0), .val (.int f1), .val (.int f2), .val (.int f3), .val (.int f4), .val (.int (x4 &&& (3 : Int32))), .val (.ref pp), .val (.int sz), .val (.ref b60), .val (.ref b100), .val (.int z5), .val (.int ps), .unset, .unset, .unset] [])) t → Steps p.tables e below (s₁.setTop (entryFrame m #[(.int x0), (.int x1), (.int x2), (.long x3), (.int x4), (.int x5)] maxLocals)) t) := by
                                        have pre143 : ∀ t, Steps p.tables e below (T136.setTop (mkF m 400 #[.val (.int x0), .val (.int x1), .val (.int x2), .val (.long x3), .second, .val (.int x4), .val (.int x5), .val (.int f0), .val (.int f1), .val (.int f2), .val (.int f3), .val (.int f4), .val (.int (x4 &&& (3 : Int32))), .val (.ref pp), .val (.int sz), .val (.ref b60), .val (.ref b100), .val (.int z5), .val (.int z4), .unset, .unset, .unset] [(.int f4)])) t → Steps p.tables e below (s₁.setTop (entryFrame m #[(.int x0), (.int x1), (.int x2), (.long x3), (.int x4), (.int x5)] maxLocals)) t := fun t k => pre136 t (by
                                          show Steps p.tables e below (T136.setTop (mkF m 398 #[.val (.int x0), .val (.int x1), .val (.int x2), .val (.long x3), .second, .val (.int x4), .val (.int x5), .val (.int f0), .val (.int f1), .val (.int f2), .val (.int f3), .val (.int f4), .val (.int (x4 &&& (3 : Int32))), .val (.ref pp), .val (.int sz), .val (.ref b60), .val (.ref b100), .val (.int z5), .val (.int z4), .unset, .unset, .unset] [])) _
                                          refine XS.iload X136.here hx rfl (hb hby at_398) rfl ?_
                                          show Steps p.tables e below (T136.setTop (mkF m 400 #[.val (.int x0), .val (.int x1), .val (.int x2), .val (.long x3), .second, .val (.int x4), .val (.int x5), .val (.int f0), .val (.int f1), .val (.int f2), .val (.int f3), .val (.int f4), .val (.int (x4 &&& (3 : Int32))), .val (.ref pp), .val (.int sz), .val (.ref b60), .val (.ref b100), .val (.int z5), .val (.int z4), .unset, .unset, .unset] [(.int f4)])) _
                                          exact k)
                                        by_cases hc144 : f4 = (0 : Int32)
                                        · skip
                                          as_aux_lemma =>
                                            have pre145 : ∀ t, Steps p.tables e below (T136.setTop (mkF m 510 #[.val (.int x0), .val (.int x1), .val (.int x2), .val (.long x3), .second, .val (.int x4), .val (.int x5), .val (.int f0), .val (.int f1), .val (.int f2), .val (.int f3), .val (.int f4), .val (.int (x4 &&& (3 : Int32))), .val (.ref pp), .val (.int sz), .val (.ref b60), .val (.ref b100), .val (.int z5), .val (.int z4), .unset, .unset, .unset] [])) t → Steps p.tables e below (s₁.setTop (entryFrame m #[(.int x0), (.int x1), (.int x2), (.long x3), (.int x4), (.int x5)] maxLocals)) t := fun t k => pre143 t (by
                                              refine XS.ifYes X136.here hx rfl (pc0 := 400) (pc' := 510) rfl (hb hby at_400) rfl ((if0 _ _).trans (teq hc144).1) (by decide) (by decide) ?_
                                              exact k)
                                            as_aux_lemma =>
                                              exact ⟨T136, _, z4, X136.more (by decide) (by decide), e136, N136, fun t k => pre145 t k⟩
                                        · skip
                                          as_aux_lemma =>
                                            obtain ⟨_, _, ⟨T146, L146, k146, n146⟩, -, X146, ⟨Lc146, hQ146, l146, y146, z146⟩, st146⟩ := Jvm.LawKit.callS X136 hx (y := (⟨"com/example/vigilant_consumer/vigilantconsumer/ProtocolWriterToByteArrayPinLaw", "int32At", "([BII)Z"⟩ : MethodName)) hown (mvT hZ (hw _ (List.mem_of_getElem? (i := 59) rfl))) (mvT hZ (hw _ (List.mem_of_getElem? (i := 60) rfl))) (mvT hZ (hw _ (List.mem_of_getElem? (i := 57) rfl))) (mvT hZ (hw _ (List.mem_of_getElem? (i := 61) rfl))) (by decide) (backOf (W := 0) (own_r32 l Z a0 hw [] b100 z4 sz kq100 z5 D5 D4 PP T100.heap n0 Z101 V100 (by rw [hD5e, if_neg hc144]) hz4 hz5 (by have q_ := hb5_; omega)) hZ (hw _ (List.mem_of_getElem? (i := 61) rfl)) (hw _ (List.mem_of_getElem? (i := 57) rfl)) (by decide) (by decide)) (g := (mkF m 409 #[.val (.int x0), .val (.int x1), .val (.int x2), .val (.long x3), .second, .val (.int x4), .val (.int x5), .val (.int f0), .val (.int f1), .val (.int f2), .val (.int f3), .val (.int f4), .val (.int (x4 &&& (3 : Int32))), .val (.ref pp), .val (.int sz), .val (.ref b60), .val (.ref b100), .val (.int z5), .val (.int z4), .unset, .unset, .unset] [(.int sz), (.int z4), (.ref b100)])) rfl (by rw [hml]; rfl) (argsL := [(.ref b100), (.int z4), (.int sz)]) (rest := []) (lenOf own_pd4 rfl) rfl (by show 2 * 0 + _ ≤ _; exact Nat.le_of_eq rfl) (hb hby at_409) (fun _ _ => ⟨rfl, e136, (by decide : 5 + 0 ≤ _), (by decide : 422 + 0 ≤ _)⟩)
                                            dsimp only [Pt.U, Pt.locs, Pt.cells, Pt.slots] at X146 l146 y146 z146 st146 hQ146
                                            subst l146 y146 z146
                                            obtain ⟨rfl, N146q, e146⟩ := hQ146
                                            have N146 := Fr.app N136 N146q
                                            have pre147 : ∀ t, Steps p.tables e below (T146.setTop (mkF m 422 #[.val (.int x0), .val (.int x1), .val (.int x2), .val (.long x3), .second, .val (.int x4), .val (.int x5), .val (.int f0), .val (.int f1), .val (.int f2), .val (.int f3), .val (.int f4), .val (.int (x4 &&& (3 : Int32))), .val (.ref pp), .val (.int sz), .val (.ref b60), .val (.ref b100), .val (.int z5), .val (.int (z4 + (4 : Int32))), .unset, .unset, .unset] [(.int sz)])) t → Steps p.tables e below (s₁.setTop (entryFrame m #[(.int x0), (.int x1), (.int x2), (.long x3), (.int x4), (.int x5)] maxLocals)) t := fun t k => pre143 t (by
                                              refine XS.ifNo X136.here hx rfl (hb hby at_400) rfl ((if0 _ _).trans (feq hc144).1) ?_
                                              show Steps p.tables e below (T136.setTop (mkF m 403 #[.val (.int x0), .val (.int x1), .val (.int x2), .val (.long x3), .second, .val (.int x4), .val (.int x5), .val (.int f0), .val (.int f1), .val (.int f2), .val (.int f3), .val (.int f4), .val (.int (x4 &&& (3 : Int32))), .val (.ref pp), .val (.int sz), .val (.ref b60), .val (.ref b100), .val (.int z5), .val (.int z4), .unset, .unset, .unset] [])) _
                                              refine XS.aload X136.here hx rfl (hb hby at_403) rfl rfl ?_
                                              show Steps p.tables e below (T136.setTop (mkF m 405 #[.val (.int x0), .val (.int x1), .val (.int x2), .val (.long x3), .second, .val (.int x4), .val (.int x5), .val (.int f0), .val (.int f1), .val (.int f2), .val (.int f3), .val (.int f4), .val (.int (x4 &&& (3 : Int32))), .val (.ref pp), .val (.int sz), .val (.ref b60), .val (.ref b100), .val (.int z5), .val (.int z4), .unset, .unset, .unset] [(.ref b100)])) _
                                              refine XS.iload X136.here hx rfl (hb hby at_405) rfl ?_
                                              show Steps p.tables e below (T136.setTop (mkF m 407 #[.val (.int x0), .val (.int x1), .val (.int x2), .val (.long x3), .second, .val (.int x4), .val (.int x5), .val (.int f0), .val (.int f1), .val (.int f2), .val (.int f3), .val (.int f4), .val (.int (x4 &&& (3 : Int32))), .val (.ref pp), .val (.int sz), .val (.ref b60), .val (.ref b100), .val (.int z5), .val (.int z4), .unset, .unset, .unset] [(.int z4), (.ref b100)])) _
                                              refine XS.iload X136.here hx rfl (hb hby at_407) rfl ?_
                                              show Steps p.tables e below (T136.setTop (mkF m 409 #[.val (.int x0), .val (.int x1), .val (.int x2), .val (.long x3), .second, .val (.int x4), .val (.int x5), .val (.int f0), .val (.int f1), .val (.int f2), .val (.int f3), .val (.int f4), .val (.int (x4 &&& (3 : Int32))), .val (.ref pp), .val (.int sz), .val (.ref b60), .val (.ref b100), .val (.int z5), .val (.int z4), .unset, .unset, .unset] [(.int sz), (.int z4), (.ref b100)])) _
                                              refine st146 _ ?_
                                              show Steps p.tables e below (T146.setTop (mkF m 412 #[.val (.int x0), .val (.int x1), .val (.int x2), .val (.long x3), .second, .val (.int x4), .val (.int x5), .val (.int f0), .val (.int f1), .val (.int f2), .val (.int f3), .val (.int f4), .val (.int (x4 &&& (3 : Int32))), .val (.ref pp), .val (.int sz), .val (.ref b60), .val (.ref b100), .val (.int z5), .val (.int z4), .unset, .unset, .unset] [(.int (1 : Int32))])) _
                                              refine XS.ifYes X146.here hx rfl (pc0 := 412) (pc' := 417) rfl (hb hby at_412) rfl ((if0 _ _).trans (feq (by decide : ¬ ((1 : Int32) = (0 : Int32)))).2) (by decide) (by decide) ?_
                                              show Steps p.tables e below (T146.setTop (mkF m 417 #[.val (.int x0), .val (.int x1), .val (.int x2), .val (.long x3), .second, .val (.int x4), .val (.int x5), .val (.int f0), .val (.int f1), .val (.int f2), .val (.int f3), .val (.int f4), .val (.int (x4 &&& (3 : Int32))), .val (.ref pp), .val (.int sz), .val (.ref b60), .val (.ref b100), .val (.int z5), .val (.int z4), .unset, .unset, .unset] [])) _
                                              refine XS.iinc X146.here hx rfl (hb hby at_417) rfl (l' := #[.val (.int x0), .val (.int x1), .val (.int x2), .val (.long x3), .second, .val (.int x4), .val (.int x5), .val (.int f0), .val (.int f1), .val (.int f2), .val (.int f3), .val (.int f4), .val (.int (x4 &&& (3 : Int32))), .val (.ref pp), .val (.int sz), .val (.ref b60), .val (.ref b100), .val (.int z5), .val (.int (z4 + (4 : Int32))), .unset, .unset, .unset]) rfl ?_
                                              show Steps p.tables e below (T146.setTop (mkF m 420 #[.val (.int x0), .val (.int x1), .val (.int x2), .val (.long x3), .second, .val (.int x4), .val (.int x5), .val (.int f0), .val (.int f1), .val (.int f2), .val (.int f3), .val (.int f4), .val (.int (x4 &&& (3 : Int32))), .val (.ref pp), .val (.int sz), .val (.ref b60), .val (.ref b100), .val (.int z5), .val (.int (z4 + (4 : Int32))), .unset, .unset, .unset] [])) _
                                              refine XS.iload X146.here hx rfl (hb hby at_420) rfl ?_
                                              show Steps p.tables e below (T146.setTop (mkF m 422 #[.val (.int x0), .val (.int x1), .val (.int x2), .val (.long x3), .second, .val (.int x4), .val (.int x5), .val (.int f0), .val (.int f1), .val (.int f2), .val (.int f3), .val (.int f4), .val (.int (x4 &&& (3 : Int32))), .val (.ref pp), .val (.int sz), .val (.ref b60), .val (.ref b100), .val (.int z5), .val (.int (z4 + (4 : Int32))), .unset, .unset, .unset] [(.int sz)])) _
                                              exact k)
                                            by_cases hc148 : (0 : Int32) < sz
                                            · skip
                                              as_aux_lemma =>
                                                have ha4 : (z4 + (4 : Int32)).toInt = ((D4 ++ own_l32 sz).length : Int) := own_hzA hz4 rfl (by have q_ := hb4_; show _ + (4 : Int) ≤ 1000; omega)
                                                have hla4 : (D4 ++ own_l32 sz).length = D4.length + 4 := by rw [List.length_append]; rfl
                                                have hDP : D5 = (D4 ++ own_l32 sz) ++ (PP ++ []) := by rw [hD5e, if_neg hc144]; simp only [List.append_assoc, List.append_nil]
                                                obtain ⟨cl149, Ar149, q149, S149, M149, H149, G149⟩ := id V100
                                                have hr149 : (¬ (z4 + (4 : Int32)) < 0 ∧ (z4 + (4 : Int32)) < z5) ∧ (List.map Value.int D5).getD ((z4 + (4 : Int32))).toNatClampNeg (.int (0 : Int32)) = .int (x5.toInt8.toInt32) := own_rd (j := (z4 + (4 : Int32))) 0 hDP ha4 hz5 (by simp) (own_gt hzp hc148 (j := 0) rfl) (v := (x5.toInt8.toInt32)) (hP0 hc148)
                                                have hin149 : ¬ ((z4 + (4 : Int32)) < 0 ∨ cl149.slots.size ≤ ((z4 + (4 : Int32))).toNatClampNeg) := inb_of S149 hr149.1
                                                have pre150 : ∀ t, Steps p.tables e below (T146.setTop (mkF m 441 #[.val (.int x0), .val (.int x1), .val (.int x2), .val (.long x3), .second, .val (.int x4), .val (.int x5), .val (.int f0), .val (.int f1), .val (.int f2), .val (.int f3), .val (.int f4), .val (.int (x4 &&& (3 : Int32))), .val (.ref pp), .val (.int sz), .val (.ref b60), .val (.ref b100), .val (.int z5), .val (.int (z4 + (4 : Int32))), .unset, .unset, .unset] [(.int (1 : Int32)), (.int sz)])) t → Steps p.tables e below (s₁.setTop (entryFrame m #[(.int x0), (.int x1), (.int x2), (.long x3), (.int x4), (.int x5)] maxLocals)) t := fun t k => pre147 t (by
                                                  refine XS.ifNo X146.here hx rfl (hb hby at_422) rfl ((if0 _ _).trans (tlt hc148).2.2.2) ?_
                                                  show Steps p.tables e below (T146.setTop (mkF m 425 #[.val (.int x0), .val (.int x1), .val (.int x2), .val (.long x3), .second, .val (.int x4), .val (.int x5), .val (.int f0), .val (.int f1), .val (.int f2), .val (.int f3), .val (.int f4), .val (.int (x4 &&& (3 : Int32))), .val (.ref pp), .val (.int sz), .val (.ref b60), .val (.ref b100), .val (.int z5), .val (.int (z4 + (4 : Int32))), .unset, .unset, .unset] [])) _
                                                  refine XS.aload X146.here hx rfl (hb hby at_425) rfl rfl ?_
                                                  show Steps p.tables e below (T146.setTop (mkF m 427 #[.val (.int x0), .val (.int x1), .val (.int x2), .val (.long x3), .second, .val (.int x4), .val (.int x5), .val (.int f0), .val (.int f1), .val (.int f2), .val (.int f3), .val (.int f4), .val (.int (x4 &&& (3 : Int32))), .val (.ref pp), .val (.int sz), .val (.ref b60), .val (.ref b100), .val (.int z5), .val (.int (z4 + (4 : Int32))), .unset, .unset, .unset] [(.ref b100)])) _
                                                  refine XS.iload X146.here hx rfl (hb hby at_427) rfl ?_
                                                  show Steps p.tables e below (T146.setTop (mkF m 429 #[.val (.int x0), .val (.int x1), .val (.int x2), .val (.long x3), .second, .val (.int x4), .val (.int x5), .val (.int f0), .val (.int f1), .val (.int f2), .val (.int f3), .val (.int f4), .val (.int (x4 &&& (3 : Int32))), .val (.ref pp), .val (.int sz), .val (.ref b60), .val (.ref b100), .val (.int z5), .val (.int (z4 + (4 : Int32))), .unset, .unset, .unset] [(.int (z4 + (4 : Int32))), (.ref b100)])) _
                                                  refine X146.baloadBytes hx (j := (z4 + (4 : Int32))) (v := (.int (x5.toInt8.toInt32))) (by rw [e146]; exact Ar149.1) (State.isArrayOf_alike hZ.alike Ar149.2.1) Ar149.2.2 hin149 (H149.at hin149 hr149.2) (g := (mkF m 429 #[.val (.int x0), .val (.int x1), .val (.int x2), .val (.long x3), .second, .val (.int x4), .val (.int x5), .val (.int f0), .val (.int f1), .val (.int f2), .val (.int f3), .val (.int f4), .val (.int (x4 &&& (3 : Int32))), .val (.ref pp), .val (.int sz), .val (.ref b60), .val (.ref b100), .val (.int z5), .val (.int (z4 + (4 : Int32))), .unset, .unset, .unset] [(.int (z4 + (4 : Int32))), (.ref b100)])) rfl rfl (hb hby at_429) _ ?_
                                                  show Steps p.tables e below (T146.setTop (mkF m 430 #[.val (.int x0), .val (.int x1), .val (.int x2), .val (.long x3), .second, .val (.int x4), .val (.int x5), .val (.int f0), .val (.int f1), .val (.int f2), .val (.int f3), .val (.int f4), .val (.int (x4 &&& (3 : Int32))), .val (.ref pp), .val (.int sz), .val (.ref b60), .val (.ref b100), .val (.int z5), .val (.int (z4 + (4 : Int32))), .unset, .unset, .unset] [(.int (x5.toInt8.toInt32))])) _
                                                  refine XS.iload X146.here hx rfl (hb hby at_430) rfl ?_
                                                  show Steps p.tables e below (T146.setTop (mkF m 432 #[.val (.int x0), .val (.int x1), .val (.int x2), .val (.long x3), .second, .val (.int x4), .val (.int x5), .val (.int f0), .val (.int f1), .val (.int f2), .val (.int f3), .val (.int f4), .val (.int (x4 &&& (3 : Int32))), .val (.ref pp), .val (.int sz), .val (.ref b60), .val (.ref b100), .val (.int z5), .val (.int (z4 + (4 : Int32))), .unset, .unset, .unset] [(.int x5), (.int (x5.toInt8.toInt32))])) _
                                                  refine XS.i2b X146.here hx rfl (hb hby at_432) rfl ?_
                                                  show Steps p.tables e below (T146.setTop (mkF m 433 #[.val (.int x0), .val (.int x1), .val (.int x2), .val (.long x3), .second, .val (.int x4), .val (.int x5), .val (.int f0), .val (.int f1), .val (.int f2), .val (.int f3), .val (.int f4), .val (.int (x4 &&& (3 : Int32))), .val (.ref pp), .val (.int sz), .val (.ref b60), .val (.ref b100), .val (.int z5), .val (.int (z4 + (4 : Int32))), .unset, .unset, .unset] [(.int (x5.toInt8.toInt32)), (.int (x5.toInt8.toInt32))])) _
                                                  refine XS.icmpYes X146.here hx rfl (pc0 := 433) (pc' := 438) rfl (hb hby at_433) rfl (teq (rfl : (x5.toInt8.toInt32) = (x5.toInt8.toInt32))).1 (by decide) (by decide) ?_
                                                  show Steps p.tables e below (T146.setTop (mkF m 438 #[.val (.int x0), .val (.int x1), .val (.int x2), .val (.long x3), .second, .val (.int x4), .val (.int x5), .val (.int f0), .val (.int f1), .val (.int f2), .val (.int f3), .val (.int f4), .val (.int (x4 &&& (3 : Int32))), .val (.ref pp), .val (.int sz), .val (.ref b60), .val (.ref b100), .val (.int z5), .val (.int (z4 + (4 : Int32))), .unset, .unset, .unset] [])) _
                                                  refine XS.iload X146.here hx rfl (hb hby at_438) rfl ?_
                                                  show Steps p.tables e below (T146.setTop (mkF m 440 #[.val (.int x0), .val (.int x1), .val (.int x2), .val (.long x3), .second, .val (.int x4), .val (.int x5), .val (.int f0), .val (.int f1), .val (.int f2), .val (.int f3), .val (.int f4), .val (.int (x4 &&& (3 : Int32))), .val (.ref pp), .val (.int sz), .val (.ref b60), .val (.ref b100), .val (.int z5), .val (.int (z4 + (4 : Int32))), .unset, .unset, .unset] [(.int sz)])) _
                                                  refine XS.iconst X146.here hx rfl (hb hby at_440) ?_
                                                  show Steps p.tables e below (T146.setTop (mkF m 441 #[.val (.int x0), .val (.int x1), .val (.int x2), .val (.long x3), .second, .val (.int x4), .val (.int x5), .val (.int f0), .val (.int f1), .val (.int f2), .val (.int f3), .val (.int f4), .val (.int (x4 &&& (3 : Int32))), .val (.ref pp), .val (.int sz), .val (.ref b60), .val (.ref b100), .val (.int z5), .val (.int (z4 + (4 : Int32))), .unset, .unset, .unset] [(.int (1 : Int32)), (.int sz)])) _
                                                  exact k)
                                                by_cases hc151 : (1 : Int32) < sz
                                                · skip
                                                  as_aux_lemma =>
                                                    obtain ⟨cl152, Ar152, q152, S152, M152, H152, G152⟩ := id V100
                                                    have hr152 : (¬ (((z4 + (4 : Int32)) + sz) - (1 : Int32)) < 0 ∧ (((z4 + (4 : Int32)) + sz) - (1 : Int32)) < z5) ∧ (List.map Value.int D5).getD ((((z4 + (4 : Int32)) + sz) - (1 : Int32))).toNatClampNeg (.int (0 : Int32)) = .int (((x5.toUInt32 >>> ((8 : Int32) &&& 31).toUInt32).toInt32).toInt8.toInt32) := own_rd (j := (((z4 + (4 : Int32)) + sz) - (1 : Int32))) (PP.length - 1) hDP ha4 hz5 (own_j1 ha4 hzp (Nat.le_of_lt (own_gt hzp hc151 (j := 1) rfl)) (by have q_ := hb4_; have q2_ := hPl; rw [hla4]; omega)) (Nat.sub_lt (Nat.lt_of_lt_of_le (by decide) (own_gt hzp hc151 (j := 1) rfl)) (by decide)) (v := (((x5.toUInt32 >>> ((8 : Int32) &&& 31).toUInt32).toInt32).toInt8.toInt32)) (hP1 hc151)
                                                    have hin152 : ¬ ((((z4 + (4 : Int32)) + sz) - (1 : Int32)) < 0 ∨ cl152.slots.size ≤ ((((z4 + (4 : Int32)) + sz) - (1 : Int32))).toNatClampNeg) := inb_of S152 hr152.1
                                                    have pre153 : ∀ t, Steps p.tables e below (T146.setTop (mkF m 468 #[.val (.int x0), .val (.int x1), .val (.int x2), .val (.long x3), .second, .val (.int x4), .val (.int x5), .val (.int f0), .val (.int f1), .val (.int f2), .val (.int f3), .val (.int f4), .val (.int (x4 &&& (3 : Int32))), .val (.ref pp), .val (.int sz), .val (.ref b60), .val (.ref b100), .val (.int z5), .val (.int (z4 + (4 : Int32))), .unset, .unset, .unset] [(.int (2 : Int32)), (.int sz)])) t → Steps p.tables e below (s₁.setTop (entryFrame m #[(.int x0), (.int x1), (.int x2), (.long x3), (.int x4), (.int x5)] maxLocals)) t := fun t k => pre150 t (by
                                                      refine XS.icmpNo X146.here hx rfl (hb hby at_441) rfl (tlt hc151).2.2.2 ?_
                                                      show Steps p.tables e below (T146.setTop (mkF m 444 #[.val (.int x0), .val (.int x1), .val (.int x2), .val (.long x3), .second, .val (.int x4), .val (.int x5), .val (.int f0), .val (.int f1), .val (.int f2), .val (.int f3), .val (.int f4), .val (.int (x4 &&& (3 : Int32))), .val (.ref pp), .val (.int sz), .val (.ref b60), .val (.ref b100), .val (.int z5), .val (.int (z4 + (4 : Int32))), .unset, .unset, .unset] [])) _
                                                      refine XS.aload X146.here hx rfl (hb hby at_444) rfl rfl ?_
                                                      show Steps p.tables e below (T146.setTop (mkF m 446 #[.val (.int x0), .val (.int x1), .val (.int x2), .val (.long x3), .second, .val (.int x4), .val (.int x5), .val (.int f0), .val (.int f1), .val (.int f2), .val (.int f3), .val (.int f4), .val (.int (x4 &&& (3 : Int32))), .val (.ref pp), .val (.int sz), .val (.ref b60), .val (.ref b100), .val (.int z5), .val (.int (z4 + (4 : Int32))), .unset, .unset, .unset] [(.ref b100)])) _
                                                      refine XS.iload X146.here hx rfl (hb hby at_446) rfl ?_
                                                      show Steps p.tables e below (T146.setTop (mkF m 448 #[.val (.int x0), .val (.int x1), .val (.int x2), .val (.long x3), .second, .val (.int x4), .val (.int x5), .val (.int f0), .val (.int f1), .val (.int f2), .val (.int f3), .val (.int f4), .val (.int (x4 &&& (3 : Int32))), .val (.ref pp), .val (.int sz), .val (.ref b60), .val (.ref b100), .val (.int z5), .val (.int (z4 + (4 : Int32))), .unset, .unset, .unset] [(.int (z4 + (4 : Int32))), (.ref b100)])) _
                                                      refine XS.iload X146.here hx rfl (hb hby at_448) rfl ?_
                                                      show Steps p.tables e below (T146.setTop (mkF m 450 #[.val (.int x0), .val (.int x1), .val (.int x2), .val (.long x3), .second, .val (.int x4), .val (.int x5), .val (.int f0), .val (.int f1), .val (.int f2), .val (.int f3), .val (.int f4), .val (.int (x4 &&& (3 : Int32))), .val (.ref pp), .val (.int sz), .val (.ref b60), .val (.ref b100), .val (.int z5), .val (.int (z4 + (4 : Int32))), .unset, .unset, .unset] [(.int sz), (.int (z4 + (4 : Int32))), (.ref b100)])) _
                                                      refine XS.iadd X146.here hx rfl (hb hby at_450) rfl ?_
                                                      show Steps p.tables e below (T146.setTop (mkF m 451 #[.val (.int x0), .val (.int x1), .val (.int x2), .val (.long x3), .second, .val (.int x4), .val (.int x5), .val (.int f0), .val (.int f1), .val (.int f2), .val (.int f3), .val (.int f4), .val (.int (x4 &&& (3 : Int32))), .val (.ref pp), .val (.int sz), .val (.ref b60), .val (.ref b100), .val (.int z5), .val (.int (z4 + (4 : Int32))), .unset, .unset, .unset] [(.int ((z4 + (4 : Int32)) + sz)), (.ref b100)])) _
                                                      refine XS.iconst X146.here hx rfl (hb hby at_451) ?_
                                                      show Steps p.tables e below (T146.setTop (mkF m 452 #[.val (.int x0), .val (.int x1), .val (.int x2), .val (.long x3), .second, .val (.int x4), .val (.int x5), .val (.int f0), .val (.int f1), .val (.int f2), .val (.int f3), .val (.int f4), .val (.int (x4 &&& (3 : Int32))), .val (.ref pp), .val (.int sz), .val (.ref b60), .val (.ref b100), .val (.int z5), .val (.int (z4 + (4 : Int32))), .unset, .unset, .unset] [(.int (1 : Int32)), (.int ((z4 + (4 : Int32)) + sz)), (.ref b100)])) _
                                                      refine XS.isub X146.here hx rfl (hb hby at_452) rfl ?_
                                                      show Steps p.tables e below (T146.setTop (mkF m 453 #[.val (.int x0), .val (.int x1), .val (.int x2), .val (.long x3), .second, .val (.int x4), .val (.int x5), .val (.int f0), .val (.int f1), .val (.int f2), .val (.int f3), .val (.int f4), .val (.int (x4 &&& (3 : Int32))), .val (.ref pp), .val (.int sz), .val (.ref b60), .val (.ref b100), .val (.int z5), .val (.int (z4 + (4 : Int32))), .unset, .unset, .unset] [(.int (((z4 + (4 : Int32)) + sz) - (1 : Int32))), (.ref b100)])) _
                                                      refine X146.baloadBytes hx (j := (((z4 + (4 : Int32)) + sz) - (1 : Int32))) (v := (.int (((x5.toUInt32 >>> ((8 : Int32) &&& 31).toUInt32).toInt32).toInt8.toInt32))) (by rw [e146]; exact Ar152.1) (State.isArrayOf_alike hZ.alike Ar152.2.1) Ar152.2.2 hin152 (H152.at hin152 hr152.2) (g := (mkF m 453 #[.val (.int x0), .val (.int x1), .val (.int x2), .val (.long x3), .second, .val (.int x4), .val (.int x5), .val (.int f0), .val (.int f1), .val (.int f2), .val (.int f3), .val (.int f4), .val (.int (x4 &&& (3 : Int32))), .val (.ref pp), .val (.int sz), .val (.ref b60), .val (.ref b100), .val (.int z5), .val (.int (z4 + (4 : Int32))), .unset, .unset, .unset] [(.int (((z4 + (4 : Int32)) + sz) - (1 : Int32))), (.ref b100)])) rfl rfl (hb hby at_453) _ ?_
                                                      show Steps p.tables e below (T146.setTop (mkF m 454 #[.val (.int x0), .val (.int x1), .val (.int x2), .val (.long x3), .second, .val (.int x4), .val (.int x5), .val (.int f0), .val (.int f1), .val (.int f2), .val (.int f3), .val (.int f4), .val (.int (x4 &&& (3 : Int32))), .val (.ref pp), .val (.int sz), .val (.ref b60), .val (.ref b100), .val (.int z5), .val (.int (z4 + (4 : Int32))), .unset, .unset, .unset] [(.int (((x5.toUInt32 >>> ((8 : Int32) &&& 31).toUInt32).toInt32).toInt8.toInt32))])) _
                                                      refine XS.iload X146.here hx rfl (hb hby at_454) rfl ?_
                                                      show Steps p.tables e below (T146.setTop (mkF m 456 #[.val (.int x0), .val (.int x1), .val (.int x2), .val (.long x3), .second, .val (.int x4), .val (.int x5), .val (.int f0), .val (.int f1), .val (.int f2), .val (.int f3), .val (.int f4), .val (.int (x4 &&& (3 : Int32))), .val (.ref pp), .val (.int sz), .val (.ref b60), .val (.ref b100), .val (.int z5), .val (.int (z4 + (4 : Int32))), .unset, .unset, .unset] [(.int x5), (.int (((x5.toUInt32 >>> ((8 : Int32) &&& 31).toUInt32).toInt32).toInt8.toInt32))])) _
                                                      refine XS.bipush X146.here hx rfl (hb hby at_456) ?_
                                                      show Steps p.tables e below (T146.setTop (mkF m 458 #[.val (.int x0), .val (.int x1), .val (.int x2), .val (.long x3), .second, .val (.int x4), .val (.int x5), .val (.int f0), .val (.int f1), .val (.int f2), .val (.int f3), .val (.int f4), .val (.int (x4 &&& (3 : Int32))), .val (.ref pp), .val (.int sz), .val (.ref b60), .val (.ref b100), .val (.int z5), .val (.int (z4 + (4 : Int32))), .unset, .unset, .unset] [(.int (8 : Int32)), (.int x5), (.int (((x5.toUInt32 >>> ((8 : Int32) &&& 31).toUInt32).toInt32).toInt8.toInt32))])) _
                                                      refine XS.iushr X146.here hx rfl (hb hby at_458) rfl ?_
                                                      show Steps p.tables e below (T146.setTop (mkF m 459 #[.val (.int x0), .val (.int x1), .val (.int x2), .val (.long x3), .second, .val (.int x4), .val (.int x5), .val (.int f0), .val (.int f1), .val (.int f2), .val (.int f3), .val (.int f4), .val (.int (x4 &&& (3 : Int32))), .val (.ref pp), .val (.int sz), .val (.ref b60), .val (.ref b100), .val (.int z5), .val (.int (z4 + (4 : Int32))), .unset, .unset, .unset] [(.int ((x5.toUInt32 >>> ((8 : Int32) &&& 31).toUInt32).toInt32)), (.int (((x5.toUInt32 >>> ((8 : Int32) &&& 31).toUInt32).toInt32).toInt8.toInt32))])) _
                                                      refine XS.i2b X146.here hx rfl (hb hby at_459) rfl ?_
                                                      show Steps p.tables e below (T146.setTop (mkF m 460 #[.val (.int x0), .val (.int x1), .val (.int x2), .val (.long x3), .second, .val (.int x4), .val (.int x5), .val (.int f0), .val (.int f1), .val (.int f2), .val (.int f3), .val (.int f4), .val (.int (x4 &&& (3 : Int32))), .val (.ref pp), .val (.int sz), .val (.ref b60), .val (.ref b100), .val (.int z5), .val (.int (z4 + (4 : Int32))), .unset, .unset, .unset] [(.int (((x5.toUInt32 >>> ((8 : Int32) &&& 31).toUInt32).toInt32).toInt8.toInt32)), (.int (((x5.toUInt32 >>> ((8 : Int32) &&& 31).toUInt32).toInt32).toInt8.toInt32))])) _
                                                      refine XS.icmpYes X146.here hx rfl (pc0 := 460) (pc' := 465) rfl (hb hby at_460) rfl (teq (rfl : (((x5.toUInt32 >>> ((8 : Int32) &&& 31).toUInt32).toInt32).toInt8.toInt32) = (((x5.toUInt32 >>> ((8 : Int32) &&& 31).toUInt32).toInt32).toInt8.toInt32))).1 (by decide) (by decide) ?_
                                                      show Steps p.tables e below (T146.setTop (mkF m 465 #[.val (.int x0), .val (.int x1), .val (.int x2), .val (.long x3), .second, .val (.int x4), .val (.int x5), .val (.int f0), .val (.int f1), .val (.int f2), .val (.int f3), .val (.int f4), .val (.int (x4 &&& (3 : Int32))), .val (.ref pp), .val (.int sz), .val (.ref b60), .val (.ref b100), .val (.int z5), .val (.int (z4 + (4 : Int32))), .unset, .unset, .unset] [])) _
                                                      refine XS.iload X146.here hx rfl (hb hby at_465) rfl ?_
                                                      show Steps p.tables e below (T146.setTop (mkF m 467 #[.val (.int x0), .val (.int x1), .val (.int x2), .val (.long x3), .second, .val (.int x4), .val (.int x5), .val (.int f0), .val (.int f1), .val (.int f2), .val (.int f3), .val (.int f4), .val (.int (x4 &&& (3 : Int32))), .val (.ref pp), .val (.int sz), .val (.ref b60), .val (.ref b100), .val (.int z5), .val (.int (z4 + (4 : Int32))), .unset, .unset, .unset] [(.int sz)])) _
                                                      refine XS.iconst X146.here hx rfl (hb hby at_467) ?_
                                                      show Steps p.tables e below (T146.setTop (mkF m 468 #[.val (.int x0), .val (.int x1), .val (.int x2), .val (.long x3), .second, .val (.int x4), .val (.int x5), .val (.int f0), .val (.int f1), .val (.int f2), .val (.int f3), .val (.int f4), .val (.int (x4 &&& (3 : Int32))), .val (.ref pp), .val (.int sz), .val (.ref b60), .val (.ref b100), .val (.int z5), .val (.int (z4 + (4 : Int32))), .unset, .unset, .unset] [(.int (2 : Int32)), (.int sz)])) _
                                                      exact k)
                                                    by_cases hc154 : (2 : Int32) < sz
                                                    · skip
                                                      as_aux_lemma =>
                                                        obtain ⟨cl155, Ar155, q155, S155, M155, H155, G155⟩ := id V100
                                                        have hr155 : (¬ ((z4 + (4 : Int32)) + (sz / (2 : Int32))) < 0 ∧ ((z4 + (4 : Int32)) + (sz / (2 : Int32))) < z5) ∧ (List.map Value.int D5).getD (((z4 + (4 : Int32)) + (sz / (2 : Int32)))).toNatClampNeg (.int (0 : Int32)) = .int (((x5.toUInt32 >>> ((16 : Int32) &&& 31).toUInt32).toInt32).toInt8.toInt32) := own_rd (j := ((z4 + (4 : Int32)) + (sz / (2 : Int32)))) (PP.length / 2) hDP ha4 hz5 (own_j2 ha4 hzp (by have q_ := hb4_; have q2_ := hPl; rw [hla4]; omega)) (by have q_ := own_gt hzp hc154 (j := 2) rfl; omega) (v := (((x5.toUInt32 >>> ((16 : Int32) &&& 31).toUInt32).toInt32).toInt8.toInt32)) (hP2 hc154)
                                                        have hin155 : ¬ (((z4 + (4 : Int32)) + (sz / (2 : Int32))) < 0 ∨ cl155.slots.size ≤ (((z4 + (4 : Int32)) + (sz / (2 : Int32)))).toNatClampNeg) := inb_of S155 hr155.1
                                                        have pre156 : ∀ t, Steps p.tables e below (T146.setTop (mkF m 495 #[.val (.int x0), .val (.int x1), .val (.int x2), .val (.long x3), .second, .val (.int x4), .val (.int x5), .val (.int f0), .val (.int f1), .val (.int f2), .val (.int f3), .val (.int f4), .val (.int (x4 &&& (3 : Int32))), .val (.ref pp), .val (.int sz), .val (.ref b60), .val (.ref b100), .val (.int z5), .val (.int (z4 + (4 : Int32))), .unset, .unset, .unset] [(.int (3 : Int32)), (.int sz)])) t → Steps p.tables e below (s₁.setTop (entryFrame m #[(.int x0), (.int x1), (.int x2), (.long x3), (.int x4), (.int x5)] maxLocals)) t := fun t k => pre153 t (by
                                                          refine XS.icmpNo X146.here hx rfl (hb hby at_468) rfl (tlt hc154).2.2.2 ?_
                                                          show Steps p.tables e below (T146.setTop (mkF m 471 #[.val (.int x0), .val (.int x1), .val (.int x2), .val (.long x3), .second, .val (.int x4), .val (.int x5), .val (.int f0), .val (.int f1), .val (.int f2), .val (.int f3), .val (.int f4), .val (.int (x4 &&& (3 : Int32))), .val (.ref pp), .val (.int sz), .val (.ref b60), .val (.ref b100), .val (.int z5), .val (.int (z4 + (4 : Int32))), .unset, .unset, .unset] [])) _
                                                          refine XS.aload X146.here hx rfl (hb hby at_471) rfl rfl ?_
                                                          show Steps p.tables e below (T146.setTop (mkF m 473 #[.val (.int x0), .val (.int x1), .val (.int x2), .val (.long x3), .second, .val (.int x4), .val (.int x5), .val (.int f0), .val (.int f1), .val (.int f2), .val (.int f3), .val (.int f4), .val (.int (x4 &&& (3 : Int32))), .val (.ref pp), .val (.int sz), .val (.ref b60), .val (.ref b100), .val (.int z5), .val (.int (z4 + (4 : Int32))), .unset, .unset, .unset] [(.ref b100)])) _
                                                          refine XS.iload X146.here hx rfl (hb hby at_473) rfl ?_
                                                          show Steps p.tables e below (T146.setTop (mkF m 475 #[.val (.int x0), .val (.int x1), .val (.int x2), .val (.long x3), .second, .val (.int x4), .val (.int x5), .val (.int f0), .val (.int f1), .val (.int f2), .val (.int f3), .val (.int f4), .val (.int (x4 &&& (3 : Int32))), .val (.ref pp), .val (.int sz), .val (.ref b60), .val (.ref b100), .val (.int z5), .val (.int (z4 + (4 : Int32))), .unset, .unset, .unset] [(.int (z4 + (4 : Int32))), (.ref b100)])) _
                                                          refine XS.iload X146.here hx rfl (hb hby at_475) rfl ?_
                                                          show Steps p.tables e below (T146.setTop (mkF m 477 #[.val (.int x0), .val (.int x1), .val (.int x2), .val (.long x3), .second, .val (.int x4), .val (.int x5), .val (.int f0), .val (.int f1), .val (.int f2), .val (.int f3), .val (.int f4), .val (.int (x4 &&& (3 : Int32))), .val (.ref pp), .val (.int sz), .val (.ref b60), .val (.ref b100), .val (.int z5), .val (.int (z4 + (4 : Int32))), .unset, .unset, .unset] [(.int sz), (.int (z4 + (4 : Int32))), (.ref b100)])) _
                                                          refine XS.iconst X146.here hx rfl (hb hby at_477) ?_
                                                          show Steps p.tables e below (T146.setTop (mkF m 478 #[.val (.int x0), .val (.int x1), .val (.int x2), .val (.long x3), .second, .val (.int x4), .val (.int x5), .val (.int f0), .val (.int f1), .val (.int f2), .val (.int f3), .val (.int f4), .val (.int (x4 &&& (3 : Int32))), .val (.ref pp), .val (.int sz), .val (.ref b60), .val (.ref b100), .val (.int z5), .val (.int (z4 + (4 : Int32))), .unset, .unset, .unset] [(.int (2 : Int32)), (.int sz), (.int (z4 + (4 : Int32))), (.ref b100)])) _
                                                          refine XS.idiv X146.here hx rfl (hb hby at_478) rfl (by decide) ?_
                                                          show Steps p.tables e below (T146.setTop (mkF m 479 #[.val (.int x0), .val (.int x1), .val (.int x2), .val (.long x3), .second, .val (.int x4), .val (.int x5), .val (.int f0), .val (.int f1), .val (.int f2), .val (.int f3), .val (.int f4), .val (.int (x4 &&& (3 : Int32))), .val (.ref pp), .val (.int sz), .val (.ref b60), .val (.ref b100), .val (.int z5), .val (.int (z4 + (4 : Int32))), .unset, .unset, .unset] [(.int (sz / (2 : Int32))), (.int (z4 + (4 : Int32))), (.ref b100)])) _
                                                          refine XS.iadd X146.here hx rfl (hb hby at_479) rfl ?_
                                                          show Steps p.tables e below (T146.setTop (mkF m 480 #[.val (.int x0), .val (.int x1), .val (.int x2), .val (.long x3), .second, .val (.int x4), .val (.int x5), .val (.int f0), .val (.int f1), .val (.int f2), .val (.int f3), .val (.int f4), .val (.int (x4 &&& (3 : Int32))), .val (.ref pp), .val (.int sz), .val (.ref b60), .val (.ref b100), .val (.int z5), .val (.int (z4 + (4 : Int32))), .unset, .unset, .unset] [(.int ((z4 + (4 : Int32)) + (sz / (2 : Int32)))), (.ref b100)])) _
                                                          refine X146.baloadBytes hx (j := ((z4 + (4 : Int32)) + (sz / (2 : Int32)))) (v := (.int (((x5.toUInt32 >>> ((16 : Int32) &&& 31).toUInt32).toInt32).toInt8.toInt32))) (by rw [e146]; exact Ar155.1) (State.isArrayOf_alike hZ.alike Ar155.2.1) Ar155.2.2 hin155 (H155.at hin155 hr155.2) (g := (mkF m 480 #[.val (.int x0), .val (.int x1), .val (.int x2), .val (.long x3), .second, .val (.int x4), .val (.int x5), .val (.int f0), .val (.int f1), .val (.int f2), .val (.int f3), .val (.int f4), .val (.int (x4 &&& (3 : Int32))), .val (.ref pp), .val (.int sz), .val (.ref b60), .val (.ref b100), .val (.int z5), .val (.int (z4 + (4 : Int32))), .unset, .unset, .unset] [(.int ((z4 + (4 : Int32)) + (sz / (2 : Int32)))), (.ref b100)])) rfl rfl (hb hby at_480) _ ?_
                                                          show Steps p.tables e below (T146.setTop (mkF m 481 #[.val (.int x0), .val (.int x1), .val (.int x2), .val (.long x3), .second, .val (.int x4), .val (.int x5), .val (.int f0), .val (.int f1), .val (.int f2), .val (.int f3), .val (.int f4), .val (.int (x4 &&& (3 : Int32))), .val (.ref pp), .val (.int sz), .val (.ref b60), .val (.ref b100), .val (.int z5), .val (.int (z4 + (4 : Int32))), .unset, .unset, .unset] [(.int (((x5.toUInt32 >>> ((16 : Int32) &&& 31).toUInt32).toInt32).toInt8.toInt32))])) _
                                                          refine XS.iload X146.here hx rfl (hb hby at_481) rfl ?_
                                                          show Steps p.tables e below (T146.setTop (mkF m 483 #[.val (.int x0), .val (.int x1), .val (.int x2), .val (.long x3), .second, .val (.int x4), .val (.int x5), .val (.int f0), .val (.int f1), .val (.int f2), .val (.int f3), .val (.int f4), .val (.int (x4 &&& (3 : Int32))), .val (.ref pp), .val (.int sz), .val (.ref b60), .val (.ref b100), .val (.int z5), .val (.int (z4 + (4 : Int32))), .unset, .unset, .unset] [(.int x5), (.int (((x5.toUInt32 >>> ((16 : Int32) &&& 31).toUInt32).toInt32).toInt8.toInt32))])) _
                                                          refine XS.bipush X146.here hx rfl (hb hby at_483) ?_
                                                          show Steps p.tables e below (T146.setTop (mkF m 485 #[.val (.int x0), .val (.int x1), .val (.int x2), .val (.long x3), .second, .val (.int x4), .val (.int x5), .val (.int f0), .val (.int f1), .val (.int f2), .val (.int f3), .val (.int f4), .val (.int (x4 &&& (3 : Int32))), .val (.ref pp), .val (.int sz), .val (.ref b60), .val (.ref b100), .val (.int z5), .val (.int (z4 + (4 : Int32))), .unset, .unset, .unset] [(.int (16 : Int32)), (.int x5), (.int (((x5.toUInt32 >>> ((16 : Int32) &&& 31).toUInt32).toInt32).toInt8.toInt32))])) _
                                                          refine XS.iushr X146.here hx rfl (hb hby at_485) rfl ?_
                                                          show Steps p.tables e below (T146.setTop (mkF m 486 #[.val (.int x0), .val (.int x1), .val (.int x2), .val (.long x3), .second, .val (.int x4), .val (.int x5), .val (.int f0), .val (.int f1), .val (.int f2), .val (.int f3), .val (.int f4), .val (.int (x4 &&& (3 : Int32))), .val (.ref pp), .val (.int sz), .val (.ref b60), .val (.ref b100), .val (.int z5), .val (.int (z4 + (4 : Int32))), .unset, .unset, .unset] [(.int ((x5.toUInt32 >>> ((16 : Int32) &&& 31).toUInt32).toInt32)), (.int (((x5.toUInt32 >>> ((16 : Int32) &&& 31).toUInt32).toInt32).toInt8.toInt32))])) _
                                                          refine XS.i2b X146.here hx rfl (hb hby at_486) rfl ?_
                                                          show Steps p.tables e below (T146.setTop (mkF m 487 #[.val (.int x0), .val (.int x1), .val (.int x2), .val (.long x3), .second, .val (.int x4), .val (.int x5), .val (.int f0), .val (.int f1), .val (.int f2), .val (.int f3), .val (.int f4), .val (.int (x4 &&& (3 : Int32))), .val (.ref pp), .val (.int sz), .val (.ref b60), .val (.ref b100), .val (.int z5), .val (.int (z4 + (4 : Int32))), .unset, .unset, .unset] [(.int (((x5.toUInt32 >>> ((16 : Int32) &&& 31).toUInt32).toInt32).toInt8.toInt32)), (.int (((x5.toUInt32 >>> ((16 : Int32) &&& 31).toUInt32).toInt32).toInt8.toInt32))])) _
                                                          refine XS.icmpYes X146.here hx rfl (pc0 := 487) (pc' := 492) rfl (hb hby at_487) rfl (teq (rfl : (((x5.toUInt32 >>> ((16 : Int32) &&& 31).toUInt32).toInt32).toInt8.toInt32) = (((x5.toUInt32 >>> ((16 : Int32) &&& 31).toUInt32).toInt32).toInt8.toInt32))).1 (by decide) (by decide) ?_
                                                          show Steps p.tables e below (T146.setTop (mkF m 492 #[.val (.int x0), .val (.int x1), .val (.int x2), .val (.long x3), .second, .val (.int x4), .val (.int x5), .val (.int f0), .val (.int f1), .val (.int f2), .val (.int f3), .val (.int f4), .val (.int (x4 &&& (3 : Int32))), .val (.ref pp), .val (.int sz), .val (.ref b60), .val (.ref b100), .val (.int z5), .val (.int (z4 + (4 : Int32))), .unset, .unset, .unset] [])) _
                                                          refine XS.iload X146.here hx rfl (hb hby at_492) rfl ?_
                                                          show Steps p.tables e below (T146.setTop (mkF m 494 #[.val (.int x0), .val (.int x1), .val (.int x2), .val (.long x3), .second, .val (.int x4), .val (.int x5), .val (.int f0), .val (.int f1), .val (.int f2), .val (.int f3), .val (.int f4), .val (.int (x4 &&& (3 : Int32))), .val (.ref pp), .val (.int sz), .val (.ref b60), .val (.ref b100), .val (.int z5), .val (.int (z4 + (4 : Int32))), .unset, .unset, .unset] [(.int sz)])) _
                                                          refine XS.iconst X146.here hx rfl (hb hby at_494) ?_
                                                          show Steps p.tables e below (T146.setTop (mkF m 495 #[.val (.int x0), .val (.int x1), .val (.int x2), .val (.long x3), .second, .val (.int x4), .val (.int x5), .val (.int f0), .val (.int f1), .val (.int f2), .val (.int f3), .val (.int f4), .val (.int (x4 &&& (3 : Int32))), .val (.ref pp), .val (.int sz), .val (.ref b60), .val (.ref b100), .val (.int z5), .val (.int (z4 + (4 : Int32))), .unset, .unset, .unset] [(.int (3 : Int32)), (.int sz)])) _
                                                          exact k)
                                                        by_cases hc157 : (3 : Int32) < sz
                                                        · skip
                                                          as_aux_lemma =>
                                                            obtain ⟨cl158, Ar158, q158, S158, M158, H158, G158⟩ := id V100
                                                            have hr158 : (¬ ((z4 + (4 : Int32)) + (1 : Int32)) < 0 ∧ ((z4 + (4 : Int32)) + (1 : Int32)) < z5) ∧ (List.map Value.int D5).getD (((z4 + (4 : Int32)) + (1 : Int32))).toNatClampNeg (.int (0 : Int32)) = .int (0 : Int32) := own_rd (j := ((z4 + (4 : Int32)) + (1 : Int32))) 1 hDP ha4 hz5 (by rw [own_add ha4 (show (1 : Int32).toInt = 1 from rfl) (by omega) (by omega) (by have q_ := hb4_; rw [hla4]; omega), ha4]; rfl) (by have q_ := own_gt hzp hc157 (j := 3) rfl; omega) (v := (0 : Int32)) (hP3 hc157)
                                                            have hin158 : ¬ (((z4 + (4 : Int32)) + (1 : Int32)) < 0 ∨ cl158.slots.size ≤ (((z4 + (4 : Int32)) + (1 : Int32))).toNatClampNeg) := inb_of S158 hr158.1
                                                            have pre159 : ∀ t, Steps p.tables e below (T146.setTop (mkF m 510 #[.val (.int x0), .val (.int x1), .val (.int x2), .val (.long x3), .second, .val (.int x4), .val (.int x5), .val (.int f0), .val (.int f1), .val (.int f2), .val (.int f3), .val (.int f4), .val (.int (x4 &&& (3 : Int32))), .val (.ref pp), .val (.int sz), .val (.ref b60), .val (.ref b100), .val (.int z5), .val (.int (z4 + (4 : Int32))), .unset, .unset, .unset] [])) t → Steps p.tables e below (s₁.setTop (entryFrame m #[(.int x0), (.int x1), (.int x2), (.long x3), (.int x4), (.int x5)] maxLocals)) t := fun t k => pre156 t (by
                                                              refine XS.icmpNo X146.here hx rfl (hb hby at_495) rfl (tlt hc157).2.2.2 ?_
                                                              show Steps p.tables e below (T146.setTop (mkF m 498 #[.val (.int x0), .val (.int x1), .val (.int x2), .val (.long x3), .second, .val (.int x4), .val (.int x5), .val (.int f0), .val (.int f1), .val (.int f2), .val (.int f3), .val (.int f4), .val (.int (x4 &&& (3 : Int32))), .val (.ref pp), .val (.int sz), .val (.ref b60), .val (.ref b100), .val (.int z5), .val (.int (z4 + (4 : Int32))), .unset, .unset, .unset] [])) _
                                                              refine XS.aload X146.here hx rfl (hb hby at_498) rfl rfl ?_
                                                              show Steps p.tables e below (T146.setTop (mkF m 500 #[.val (.int x0), .val (.int x1), .val (.int x2), .val (.long x3), .second, .val (.int x4), .val (.int x5), .val (.int f0), .val (.int f1), .val (.int f2), .val (.int f3), .val (.int f4), .val (.int (x4 &&& (3 : Int32))), .val (.ref pp), .val (.int sz), .val (.ref b60), .val (.ref b100), .val (.int z5), .val (.int (z4 + (4 : Int32))), .unset, .unset, .unset] [(.ref b100)])) _
                                                              refine XS.iload X146.here hx rfl (hb hby at_500) rfl ?_
                                                              show Steps p.tables e below (T146.setTop (mkF m 502 #[.val (.int x0), .val (.int x1), .val (.int x2), .val (.long x3), .second, .val (.int x4), .val (.int x5), .val (.int f0), .val (.int f1), .val (.int f2), .val (.int f3), .val (.int f4), .val (.int (x4 &&& (3 : Int32))), .val (.ref pp), .val (.int sz), .val (.ref b60), .val (.ref b100), .val (.int z5), .val (.int (z4 + (4 : Int32))), .unset, .unset, .unset] [(.int (z4 + (4 : Int32))), (.ref b100)])) _
                                                              refine XS.iconst X146.here hx rfl (hb hby at_502) ?_
                                                              show Steps p.tables e below (T146.setTop (mkF m 503 #[.val (.int x0), .val (.int x1), .val (.int x2), .val (.long x3), .second, .val (.int x4), .val (.int x5), .val (.int f0), .val (.int f1), .val (.int f2), .val (.int f3), .val (.int f4), .val (.int (x4 &&& (3 : Int32))), .val (.ref pp), .val (.int sz), .val (.ref b60), .val (.ref b100), .val (.int z5), .val (.int (z4 + (4 : Int32))), .unset, .unset, .unset] [(.int (1 : Int32)), (.int (z4 + (4 : Int32))), (.ref b100)])) _
                                                              refine XS.iadd X146.here hx rfl (hb hby at_503) rfl ?_
                                                              show Steps p.tables e below (T146.setTop (mkF m 504 #[.val (.int x0), .val (.int x1), .val (.int x2), .val (.long x3), .second, .val (.int x4), .val (.int x5), .val (.int f0), .val (.int f1), .val (.int f2), .val (.int f3), .val (.int f4), .val (.int (x4 &&& (3 : Int32))), .val (.ref pp), .val (.int sz), .val (.ref b60), .val (.ref b100), .val (.int z5), .val (.int (z4 + (4 : Int32))), .unset, .unset, .unset] [(.int ((z4 + (4 : Int32)) + (1 : Int32))), (.ref b100)])) _
                                                              refine X146.baloadBytes hx (j := ((z4 + (4 : Int32)) + (1 : Int32))) (v := (.int (0 : Int32))) (by rw [e146]; exact Ar158.1) (State.isArrayOf_alike hZ.alike Ar158.2.1) Ar158.2.2 hin158 (H158.at hin158 hr158.2) (g := (mkF m 504 #[.val (.int x0), .val (.int x1), .val (.int x2), .val (.long x3), .second, .val (.int x4), .val (.int x5), .val (.int f0), .val (.int f1), .val (.int f2), .val (.int f3), .val (.int f4), .val (.int (x4 &&& (3 : Int32))), .val (.ref pp), .val (.int sz), .val (.ref b60), .val (.ref b100), .val (.int z5), .val (.int (z4 + (4 : Int32))), .unset, .unset, .unset] [(.int ((z4 + (4 : Int32)) + (1 : Int32))), (.ref b100)])) rfl rfl (hb hby at_504) _ ?_
                                                              show Steps p.tables e below (T146.setTop (mkF m 505 #[.val (.int x0), .val (.int x1), .val (.int x2), .val (.long x3), .second, .val (.int x4), .val (.int x5), .val (.int f0), .val (.int f1), .val (.int f2), .val (.int f3), .val (.int f4), .val (.int (x4 &&& (3 : Int32))), .val (.ref pp), .val (.int sz), .val (.ref b60), .val (.ref b100), .val (.int z5), .val (.int (z4 + (4 : Int32))), .unset, .unset, .unset] [(.int (0 : Int32))])) _
                                                              refine XS.ifYes X146.here hx rfl (pc0 := 505) (pc' := 510) rfl (hb hby at_505) rfl ((if0 _ _).trans (teq (by decide : (0 : Int32) = (0 : Int32))).1) (by decide) (by decide) ?_
                                                              exact k)
                                                            as_aux_lemma =>
                                                              exact ⟨T146, _, (z4 + (4 : Int32)), X146.more (by decide) (by decide), e146, N146, fun t k => pre159 t k⟩
                                                        · skip
                                                          as_aux_lemma =>
                                                            have pre160 : ∀ t, Steps p.tables e below (T146.setTop (mkF m 510 #[.val (.int x0), .val (.int x1), .val (.int x2), .val (.long x3), .second, .val (.int x4), .val (.int x5), .val (.int f0), .val (.int f1), .val (.int f2), .val (.int f3), .val (.int f4), .val (.int (x4 &&& (3 : Int32))), .val (.ref pp), .val (.int sz), .val (.ref b60), .val (.ref b100), .val (.int z5), .val (.int (z4 + (4 : Int32))), .unset, .unset, .unset] [])) t → Steps p.tables e below (s₁.setTop (entryFrame m #[(.int x0), (.int x1), (.int x2), (.long x3), (.int x4), (.int x5)] maxLocals)) t := fun t k => pre156 t (by
                                                              refine XS.icmpYes X146.here hx rfl (pc0 := 495) (pc' := 510) rfl (hb hby at_495) rfl (flt hc157).2.2.2 (by decide) (by decide) ?_
                                                              exact k)
                                                            as_aux_lemma =>
                                                              exact ⟨T146, _, (z4 + (4 : Int32)), X146.more (by decide) (by decide), e146, N146, fun t k => pre160 t k⟩
                                                    · skip
                                                      as_aux_lemma =>
                                                        have pre161 : ∀ t, Steps p.tables e below (T146.setTop (mkF m 495 #[.val (.int x0), .val (.int x1), .val (.int x2), .val (.long x3), .second, .val (.int x4), .val (.int x5), .val (.int f0), .val (.int f1), .val (.int f2), .val (.int f3), .val (.int f4), .val (.int (x4 &&& (3 : Int32))), .val (.ref pp), .val (.int sz), .val (.ref b60), .val (.ref b100), .val (.int z5), .val (.int (z4 + (4 : Int32))), .unset, .unset, .unset] [(.int (3 : Int32)), (.int sz)])) t → Steps p.tables e below (s₁.setTop (entryFrame m #[(.int x0), (.int x1), (.int x2), (.long x3), (.int x4), (.int x5)] maxLocals)) t := fun t k => pre153 t (by
                                                          refine XS.icmpYes X146.here hx rfl (pc0 := 468) (pc' := 492) rfl (hb hby at_468) rfl (flt hc154).2.2.2 (by decide) (by decide) ?_
                                                          show Steps p.tables e below (T146.setTop (mkF m 492 #[.val (.int x0), .val (.int x1), .val (.int x2), .val (.long x3), .second, .val (.int x4), .val (.int x5), .val (.int f0), .val (.int f1), .val (.int f2), .val (.int f3), .val (.int f4), .val (.int (x4 &&& (3 : Int32))), .val (.ref pp), .val (.int sz), .val (.ref b60), .val (.ref b100), .val (.int z5), .val (.int (z4 + (4 : Int32))), .unset, .unset, .unset] [])) _
                                                          refine XS.iload X146.here hx rfl (hb hby at_492) rfl ?_
                                                          show Steps p.tables e below (T146.setTop (mkF m 494 #[.val (.int x0), .val (.int x1), .val (.int x2), .val (.long x3), .second, .val (.int x4), .val (.int x5), .val (.int f0), .val (.int f1), .val (.int f2), .val (.int f3), .val (.int f4), .val (.int (x4 &&& (3 : Int32))), .val (.ref pp), .val (.int sz), .val (.ref b60), .val (.ref b100), .val (.int z5), .val (.int (z4 + (4 : Int32))), .unset, .unset, .unset] [(.int sz)])) _
                                                          refine XS.iconst X146.here hx rfl (hb hby at_494) ?_
                                                          show Steps p.tables e below (T146.setTop (mkF m 495 #[.val (.int x0), .val (.int x1), .val (.int x2), .val (.long x3), .second, .val (.int x4), .val (.int x5), .val (.int f0), .val (.int f1), .val (.int f2), .val (.int f3), .val (.int f4), .val (.int (x4 &&& (3 : Int32))), .val (.ref pp), .val (.int sz), .val (.ref b60), .val (.ref b100), .val (.int z5), .val (.int (z4 + (4 : Int32))), .unset, .unset, .unset] [(.int (3 : Int32)), (.int sz)])) _
                                                          exact k)
                                                        by_cases hc162 : (3 : Int32) < sz
                                                        · skip
                                                          as_aux_lemma =>
                                                            obtain ⟨cl163, Ar163, q163, S163, M163, H163, G163⟩ := id V100
                                                            have hr163 : (¬ ((z4 + (4 : Int32)) + (1 : Int32)) < 0 ∧ ((z4 + (4 : Int32)) + (1 : Int32)) < z5) ∧ (List.map Value.int D5).getD (((z4 + (4 : Int32)) + (1 : Int32))).toNatClampNeg (.int (0 : Int32)) = .int (0 : Int32) := own_rd (j := ((z4 + (4 : Int32)) + (1 : Int32))) 1 hDP ha4 hz5 (by rw [own_add ha4 (show (1 : Int32).toInt = 1 from rfl) (by omega) (by omega) (by have q_ := hb4_; rw [hla4]; omega), ha4]; rfl) (by have q_ := own_gt hzp hc162 (j := 3) rfl; omega) (v := (0 : Int32)) (hP3 hc162)
                                                            have hin163 : ¬ (((z4 + (4 : Int32)) + (1 : Int32)) < 0 ∨ cl163.slots.size ≤ (((z4 + (4 : Int32)) + (1 : Int32))).toNatClampNeg) := inb_of S163 hr163.1
                                                            have pre164 : ∀ t, Steps p.tables e below (T146.setTop (mkF m 510 #[.val (.int x0), .val (.int x1), .val (.int x2), .val (.long x3), .second, .val (.int x4), .val (.int x5), .val (.int f0), .val (.int f1), .val (.int f2), .val (.int f3), .val (.int f4), .val (.int (x4 &&& (3 : Int32))), .val (.ref pp), .val (.int sz), .val (.ref b60), .val (.ref b100), .val (.int z5), .val (.int (z4 + (4 : Int32))), .unset, .unset, .unset] [])) t → Steps p.tables e below (s₁.setTop (entryFrame m #[(.int x0), (.int x1), (.int x2), (.long x3), (.int x4), (.int x5)] maxLocals)) t := fun t k => pre161 t (by
                                                              refine XS.icmpNo X146.here hx rfl (hb hby at_495) rfl (tlt hc162).2.2.2 ?_
                                                              show Steps p.tables e below (T146.setTop (mkF m 498 #[.val (.int x0), .val (.int x1), .val (.int x2), .val (.long x3), .second, .val (.int x4), .val (.int x5), .val (.int f0), .val (.int f1), .val (.int f2), .val (.int f3), .val (.int f4), .val (.int (x4 &&& (3 : Int32))), .val (.ref pp), .val (.int sz), .val (.ref b60), .val (.ref b100), .val (.int z5), .val (.int (z4 + (4 : Int32))), .unset, .unset, .unset] [])) _
                                                              refine XS.aload X146.here hx rfl (hb hby at_498) rfl rfl ?_
                                                              show Steps p.tables e below (T146.setTop (mkF m 500 #[.val (.int x0), .val (.int x1), .val (.int x2), .val (.long x3), .second, .val (.int x4), .val (.int x5), .val (.int f0), .val (.int f1), .val (.int f2), .val (.int f3), .val (.int f4), .val (.int (x4 &&& (3 : Int32))), .val (.ref pp), .val (.int sz), .val (.ref b60), .val (.ref b100), .val (.int z5), .val (.int (z4 + (4 : Int32))), .unset, .unset, .unset] [(.ref b100)])) _
                                                              refine XS.iload X146.here hx rfl (hb hby at_500) rfl ?_
                                                              show Steps p.tables e below (T146.setTop (mkF m 502 #[.val (.int x0), .val (.int x1), .val (.int x2), .val (.long x3), .second, .val (.int x4), .val (.int x5), .val (.int f0), .val (.int f1), .val (.int f2), .val (.int f3), .val (.int f4), .val (.int (x4 &&& (3 : Int32))), .val (.ref pp), .val (.int sz), .val (.ref b60), .val (.ref b100), .val (.int z5), .val (.int (z4 + (4 : Int32))), .unset, .unset, .unset] [(.int (z4 + (4 : Int32))), (.ref b100)])) _
                                                              refine XS.iconst X146.here hx rfl (hb hby at_502) ?_
                                                              show Steps p.tables e below (T146.setTop (mkF m 503 #[.val (.int x0), .val (.int x1), .val (.int x2), .val (.long x3), .second, .val (.int x4), .val (.int x5), .val (.int f0), .val (.int f1), .val (.int f2), .val (.int f3), .val (.int f4), .val (.int (x4 &&& (3 : Int32))), .val (.ref pp), .val (.int sz), .val (.ref b60), .val (.ref b100), .val (.int z5), .val (.int (z4 + (4 : Int32))), .unset, .unset, .unset] [(.int (1 : Int32)), (.int (z4 + (4 : Int32))), (.ref b100)])) _
                                                              refine XS.iadd X146.here hx rfl (hb hby at_503) rfl ?_
                                                              show Steps p.tables e below (T146.setTop (mkF m 504 #[.val (.int x0), .val (.int x1), .val (.int x2), .val (.long x3), .second, .val (.int x4), .val (.int x5), .val (.int f0), .val (.int f1), .val (.int f2), .val (.int f3), .val (.int f4), .val (.int (x4 &&& (3 : Int32))), .val (.ref pp), .val (.int sz), .val (.ref b60), .val (.ref b100), .val (.int z5), .val (.int (z4 + (4 : Int32))), .unset, .unset, .unset] [(.int ((z4 + (4 : Int32)) + (1 : Int32))), (.ref b100)])) _
                                                              refine X146.baloadBytes hx (j := ((z4 + (4 : Int32)) + (1 : Int32))) (v := (.int (0 : Int32))) (by rw [e146]; exact Ar163.1) (State.isArrayOf_alike hZ.alike Ar163.2.1) Ar163.2.2 hin163 (H163.at hin163 hr163.2) (g := (mkF m 504 #[.val (.int x0), .val (.int x1), .val (.int x2), .val (.long x3), .second, .val (.int x4), .val (.int x5), .val (.int f0), .val (.int f1), .val (.int f2), .val (.int f3), .val (.int f4), .val (.int (x4 &&& (3 : Int32))), .val (.ref pp), .val (.int sz), .val (.ref b60), .val (.ref b100), .val (.int z5), .val (.int (z4 + (4 : Int32))), .unset, .unset, .unset] [(.int ((z4 + (4 : Int32)) + (1 : Int32))), (.ref b100)])) rfl rfl (hb hby at_504) _ ?_
                                                              show Steps p.tables e below (T146.setTop (mkF m 505 #[.val (.int x0), .val (.int x1), .val (.int x2), .val (.long x3), .second, .val (.int x4), .val (.int x5), .val (.int f0), .val (.int f1), .val (.int f2), .val (.int f3), .val (.int f4), .val (.int (x4 &&& (3 : Int32))), .val (.ref pp), .val (.int sz), .val (.ref b60), .val (.ref b100), .val (.int z5), .val (.int (z4 + (4 : Int32))), .unset, .unset, .unset] [(.int (0 : Int32))])) _
                                                              refine XS.ifYes X146.here hx rfl (pc0 := 505) (pc' := 510) rfl (hb hby at_505) rfl ((if0 _ _).trans (teq (by decide : (0 : Int32) = (0 : Int32))).1) (by decide) (by decide) ?_
                                                              exact k)
                                                            as_aux_lemma =>
                                                              exact ⟨T146, _, (z4 + (4 : Int32)), X146.more (by decide) (by decide), e146, N146, fun t k => pre164 t k⟩
                                                        · skip
                                                          as_aux_lemma =>
                                                            have pre165 : ∀ t, Steps p.tables e below (T146.setTop (mkF m 510 #[.val (.int x0), .val (.int x1), .val (.int x2), .val (.long x3), .second, .val (.int x4), .val (.int x5), .val (.int f0), .val (.int f1), .val (.int f2), .val (.int f3), .val (.int f4), .val (.int (x4 &&& (3 : Int32))), .val (.ref pp), .val (.int sz), .val (.ref b60), .val (.ref b100), .val (.int z5), .val (.int (z4 + (4 : Int32))), .unset, .unset, .unset] [])) t → Steps p.tables e below (s₁.setTop (entryFrame m #[(.int x0), (.int x1), (.int x2), (.long x3), (.int x4), (.int x5)] maxLocals)) t := fun t k => pre161 t (by
                                                              refine XS.icmpYes X146.here hx rfl (pc0 := 495) (pc' := 510) rfl (hb hby at_495) rfl (flt hc162).2.2.2 (by decide) (by decide) ?_
                                                              exact k)
                                                            as_aux_lemma =>
                                                              exact ⟨T146, _, (z4 + (4 : Int32)), X146.more (by decide) (by decide), e146, N146, fun t k => pre165 t k⟩
                                                · skip
                                                  as_aux_lemma =>
                                                    have pre166 : ∀ t, Steps p.tables e below (T146.setTop (mkF m 468 #[.val (.int x0), .val (.int x1), .val (.int x2), .val (.long x3), .second, .val (.int x4), .val (.int x5), .val (.int f0), .val (.int f1), .val (.int f2), .val (.int f3), .val (.int f4), .val (.int (x4 &&& (3 : Int32))), .val (.ref pp), .val (.int sz), .val (.ref b60), .val (.ref b100), .val (.int z5), .val (.int (z4 + (4 : Int32))), .unset, .unset, .unset] [(.int (2 : Int32)), (.int sz)])) t → Steps p.tables e below (s₁.setTop (entryFrame m #[(.int x0), (.int x1), (.int x2), (.long x3), (.int x4), (.int x5)] maxLocals)) t := fun t k => pre150 t (by
                                                      refine XS.icmpYes X146.here hx rfl (pc0 := 441) (pc' := 465) rfl (hb hby at_441) rfl (flt hc151).2.2.2 (by decide) (by decide) ?_
                                                      show Steps p.tables e below (T146.setTop (mkF m 465 #[.val (.int x0), .val (.int x1), .val (.int x2), .val (.long x3), .second, .val (.int x4), .val (.int x5), .val (.int f0), .val (.int f1), .val (.int f2), .val (.int f3), .val (.int f4), .val (.int (x4 &&& (3 : Int32))), .val (.ref pp), .val (.int sz), .val (.ref b60), .val (.ref b100), .val (.int z5), .val (.int (z4 + (4 : Int32))), .unset, .unset, .unset] [])) _
                                                      refine XS.iload X146.here hx rfl (hb hby at_465) rfl ?_
                                                      show Steps p.tables e below (T146.setTop (mkF m 467 #[.val (.int x0), .val (.int x1), .val (.int x2), .val (.long x3), .second, .val (.int x4), .val (.int x5), .val (.int f0), .val (.int f1), .val (.int f2), .val (.int f3), .val (.int f4), .val (.int (x4 &&& (3 : Int32))), .val (.ref pp), .val (.int sz), .val (.ref b60), .val (.ref b100), .val (.int z5), .val (.int (z4 + (4 : Int32))), .unset, .unset, .unset] [(.int sz)])) _
                                                      refine XS.iconst X146.here hx rfl (hb hby at_467) ?_
                                                      show Steps p.tables e below (T146.setTop (mkF m 468 #[.val (.int x0), .val (.int x1), .val (.int x2), .val (.long x3), .second, .val (.int x4), .val (.int x5), .val (.int f0), .val (.int f1), .val (.int f2), .val (.int f3), .val (.int f4), .val (.int (x4 &&& (3 : Int32))), .val (.ref pp), .val (.int sz), .val (.ref b60), .val (.ref b100), .val (.int z5), .val (.int (z4 + (4 : Int32))), .unset, .unset, .unset] [(.int (2 : Int32)), (.int sz)])) _
                                                      exact k)
                                                    by_cases hc167 : (2 : Int32) < sz
                                                    · skip
                                                      as_aux_lemma =>
                                                        obtain ⟨cl168, Ar168, q168, S168, M168, H168, G168⟩ := id V100
                                                        have hr168 : (¬ ((z4 + (4 : Int32)) + (sz / (2 : Int32))) < 0 ∧ ((z4 + (4 : Int32)) + (sz / (2 : Int32))) < z5) ∧ (List.map Value.int D5).getD (((z4 + (4 : Int32)) + (sz / (2 : Int32)))).toNatClampNeg (.int (0 : Int32)) = .int (((x5.toUInt32 >>> ((16 : Int32) &&& 31).toUInt32).toInt32).toInt8.toInt32) := own_rd (j := ((z4 + (4 : Int32)) + (sz / (2 : Int32)))) (PP.length / 2) hDP ha4 hz5 (own_j2 ha4 hzp (by have q_ := hb4_; have q2_ := hPl; rw [hla4]; omega)) (by have q_ := own_gt hzp hc167 (j := 2) rfl; omega) (v := (((x5.toUInt32 >>> ((16 : Int32) &&& 31).toUInt32).toInt32).toInt8.toInt32)) (hP2 hc167)
                                                        have hin168 : ¬ (((z4 + (4 : Int32)) + (sz / (2 : Int32))) < 0 ∨ cl168.slots.size ≤ (((z4 + (4 : Int32)) + (sz / (2 : Int32)))).toNatClampNeg) := inb_of S168 hr168.1
                                                        have pre169 : ∀ t, Steps p.tables e below (T146.setTop (mkF m 495 #[.val (.int x0), .val (.int x1), .val (.int x2), .val (.long x3), .second, .val (.int x4), .val (.int x5), .val (.int f0), .val (.int f1), .val (.int f2), .val (.int f3), .val (.int f4), .val (.int (x4 &&& (3 : Int32))), .val (.ref pp), .val (.int sz), .val (.ref b60), .val (.ref b100), .val (.int z5), .val (.int (z4 + (4 : Int32))), .unset, .unset, .unset] [(.int (3 : Int32)), (.int sz)])) t → Steps p.tables e below (s₁.setTop (entryFrame m #[(.int x0), (.int x1), (.int x2), (.long x3), (.int x4), (.int x5)] maxLocals)) t := fun t k => pre166 t (by
                                                          refine XS.icmpNo X146.here hx rfl (hb hby at_468) rfl (tlt hc167).2.2.2 ?_
                                                          show Steps p.tables e below (T146.setTop (mkF m 471 #[.val (.int x0), .val (.int x1), .val (.int x2), .val (.long x3), .second, .val (.int x4), .val (.int x5), .val (.int f0), .val (.int f1), .val (.int f2), .val (.int f3), .val (.int f4), .val (.int (x4 &&& (3 : Int32))), .val (.ref pp), .val (.int sz), .val (.ref b60), .val (.ref b100), .val (.int z5), .val (.int (z4 + (4 : Int32))), .unset, .unset, .unset] [])) _
                                                          refine XS.aload X146.here hx rfl (hb hby at_471) rfl rfl ?_
                                                          show Steps p.tables e below (T146.setTop (mkF m 473 #[.val (.int x0), .val (.int x1), .val (.int x2), .val (.long x3), .second, .val (.int x4), .val (.int x5), .val (.int f0), .val (.int f1), .val (.int f2), .val (.int f3), .val (.int f4), .val (.int (x4 &&& (3 : Int32))), .val (.ref pp), .val (.int sz), .val (.ref b60), .val (.ref b100), .val (.int z5), .val (.int (z4 + (4 : Int32))), .unset, .unset, .unset] [(.ref b100)])) _
                                                          refine XS.iload X146.here hx rfl (hb hby at_473) rfl ?_
                                                          show Steps p.tables e below (T146.setTop (mkF m 475 #[.val (.int x0), .val (.int x1), .val (.int x2), .val (.long x3), .second, .val (.int x4), .val (.int x5), .val (.int f0), .val (.int f1), .val (.int f2), .val (.int f3), .val (.int f4), .val (.int (x4 &&& (3 : Int32))), .val (.ref pp), .val (.int sz), .val (.ref b60), .val (.ref b100), .val (.int z5), .val (.int (z4 + (4 : Int32))), .unset, .unset, .unset] [(.int (z4 + (4 : Int32))), (.ref b100)])) _
                                                          refine XS.iload X146.here hx rfl (hb hby at_475) rfl ?_
                                                          show Steps p.tables e below (T146.setTop (mkF m 477 #[.val (.int x0), .val (.int x1), .val (.int x2), .val (.long x3), .second, .val (.int x4), .val (.int x5), .val (.int f0), .val (.int f1), .val (.int f2), .val (.int f3), .val (.int f4), .val (.int (x4 &&& (3 : Int32))), .val (.ref pp), .val (.int sz), .val (.ref b60), .val (.ref b100), .val (.int z5), .val (.int (z4 + (4 : Int32))), .unset, .unset, .unset] [(.int sz), (.int (z4 + (4 : Int32))), (.ref b100)])) _
                                                          refine XS.iconst X146.here hx rfl (hb hby at_477) ?_
                                                          show Steps p.tables e below (T146.setTop (mkF m 478 #[.val (.int x0), .val (.int x1), .val (.int x2), .val (.long x3), .second, .val (.int x4), .val (.int x5), .val (.int f0), .val (.int f1), .val (.int f2), .val (.int f3), .val (.int f4), .val (.int (x4 &&& (3 : Int32))), .val (.ref pp), .val (.int sz), .val (.ref b60), .val (.ref b100), .val (.int z5), .val (.int (z4 + (4 : Int32))), .unset, .unset, .unset] [(.int (2 : Int32)), (.int sz), (.int (z4 + (4 : Int32))), (.ref b100)])) _
                                                          refine XS.idiv X146.here hx rfl (hb hby at_478) rfl (by decide) ?_
                                                          show Steps p.tables e below (T146.setTop (mkF m 479 #[.val (.int x0), .val (.int x1), .val (.int x2), .val (.long x3), .second, .val (.int x4), .val (.int x5), .val (.int f0), .val (.int f1), .val (.int f2), .val (.int f3), .val (.int f4), .val (.int (x4 &&& (3 : Int32))), .val (.ref pp), .val (.int sz), .val (.ref b60), .val (.ref b100), .val (.int z5), .val (.int (z4 + (4 : Int32))), .unset, .unset, .unset] [(.int (sz / (2 : Int32))), (.int (z4 + (4 : Int32))), (.ref b100)])) _
                                                          refine XS.iadd X146.here hx rfl (hb hby at_479) rfl ?_
                                                          show Steps p.tables e below (T146.setTop (mkF m 480 #[.val (.int x0), .val (.int x1), .val (.int x2), .val (.long x3), .second, .val (.int x4), .val (.int x5), .val (.int f0), .val (.int f1), .val (.int f2), .val (.int f3), .val (.int f4), .val (.int (x4 &&& (3 : Int32))), .val (.ref pp), .val (.int sz), .val (.ref b60), .val (.ref b100), .val (.int z5), .val (.int (z4 + (4 : Int32))), .unset, .unset, .unset] [(.int ((z4 + (4 : Int32)) + (sz / (2 : Int32)))), (.ref b100)])) _
                                                          refine X146.baloadBytes hx (j := ((z4 + (4 : Int32)) + (sz / (2 : Int32)))) (v := (.int (((x5.toUInt32 >>> ((16 : Int32) &&& 31).toUInt32).toInt32).toInt8.toInt32))) (by rw [e146]; exact Ar168.1) (State.isArrayOf_alike hZ.alike Ar168.2.1) Ar168.2.2 hin168 (H168.at hin168 hr168.2) (g := (mkF m 480 #[.val (.int x0), .val (.int x1), .val (.int x2), .val (.long x3), .second, .val (.int x4), .val (.int x5), .val (.int f0), .val (.int f1), .val (.int f2), .val (.int f3), .val (.int f4), .val (.int (x4 &&& (3 : Int32))), .val (.ref pp), .val (.int sz), .val (.ref b60), .val (.ref b100), .val (.int z5), .val (.int (z4 + (4 : Int32))), .unset, .unset, .unset] [(.int ((z4 + (4 : Int32)) + (sz / (2 : Int32)))), (.ref b100)])) rfl rfl (hb hby at_480) _ ?_
                                                          show Steps p.tables e below (T146.setTop (mkF m 481 #[.val (.int x0), .val (.int x1), .val (.int x2), .val (.long x3), .second, .val (.int x4), .val (.int x5), .val (.int f0), .val (.int f1), .val (.int f2), .val (.int f3), .val (.int f4), .val (.int (x4 &&& (3 : Int32))), .val (.ref pp), .val (.int sz), .val (.ref b60), .val (.ref b100), .val (.int z5), .val (.int (z4 + (4 : Int32))), .unset, .unset, .unset] [(.int (((x5.toUInt32 >>> ((16 : Int32) &&& 31).toUInt32).toInt32).toInt8.toInt32))])) _
                                                          refine XS.iload X146.here hx rfl (hb hby at_481) rfl ?_
                                                          show Steps p.tables e below (T146.setTop (mkF m 483 #[.val (.int x0), .val (.int x1), .val (.int x2), .val (.long x3), .second, .val (.int x4), .val (.int x5), .val (.int f0), .val (.int f1), .val (.int f2), .val (.int f3), .val (.int f4), .val (.int (x4 &&& (3 : Int32))), .val (.ref pp), .val (.int sz), .val (.ref b60), .val (.ref b100), .val (.int z5), .val (.int (z4 + (4 : Int32))), .unset, .unset, .unset] [(.int x5), (.int (((x5.toUInt32 >>> ((16 : Int32) &&& 31).toUInt32).toInt32).toInt8.toInt32))])) _
                                                          refine XS.bipush X146.here hx rfl (hb hby at_483) ?_
                                                          show Steps p.tables e below (T146.setTop (mkF m 485 #[.val (.int x0), .val (.int x1), .val (.int x2), .val (.long x3), .second, .val (.int x4), .val (.int x5), .val (.int f0), .val (.int f1), .val (.int f2), .val (.int f3), .val (.int f4), .val (.int (x4 &&& (3 : Int32))), .val (.ref pp), .val (.int sz), .val (.ref b60), .val (.ref b100), .val (.int z5), .val (.int (z4 + (4 : Int32))), .unset, .unset, .unset] [(.int (16 : Int32)), (.int x5), (.int (((x5.toUInt32 >>> ((16 : Int32) &&& 31).toUInt32).toInt32).toInt8.toInt32))])) _
                                                          refine XS.iushr X146.here hx rfl (hb hby at_485) rfl ?_
                                                          show Steps p.tables e below (T146.setTop (mkF m 486 #[.val (.int x0), .val (.int x1), .val (.int x2), .val (.long x3), .second, .val (.int x4), .val (.int x5), .val (.int f0), .val (.int f1), .val (.int f2), .val (.int f3), .val (.int f4), .val (.int (x4 &&& (3 : Int32))), .val (.ref pp), .val (.int sz), .val (.ref b60), .val (.ref b100), .val (.int z5), .val (.int (z4 + (4 : Int32))), .unset, .unset, .unset] [(.int ((x5.toUInt32 >>> ((16 : Int32) &&& 31).toUInt32).toInt32)), (.int (((x5.toUInt32 >>> ((16 : Int32) &&& 31).toUInt32).toInt32).toInt8.toInt32))])) _
                                                          refine XS.i2b X146.here hx rfl (hb hby at_486) rfl ?_
                                                          show Steps p.tables e below (T146.setTop (mkF m 487 #[.val (.int x0), .val (.int x1), .val (.int x2), .val (.long x3), .second, .val (.int x4), .val (.int x5), .val (.int f0), .val (.int f1), .val (.int f2), .val (.int f3), .val (.int f4), .val (.int (x4 &&& (3 : Int32))), .val (.ref pp), .val (.int sz), .val (.ref b60), .val (.ref b100), .val (.int z5), .val (.int (z4 + (4 : Int32))), .unset, .unset, .unset] [(.int (((x5.toUInt32 >>> ((16 : Int32) &&& 31).toUInt32).toInt32).toInt8.toInt32)), (.int (((x5.toUInt32 >>> ((16 : Int32) &&& 31).toUInt32).toInt32).toInt8.toInt32))])) _
                                                          refine XS.icmpYes X146.here hx rfl (pc0 := 487) (pc' := 492) rfl (hb hby at_487) rfl (teq (rfl : (((x5.toUInt32 >>> ((16 : Int32) &&& 31).toUInt32).toInt32).toInt8.toInt32) = (((x5.toUInt32 >>> ((16 : Int32) &&& 31).toUInt32).toInt32).toInt8.toInt32))).1 (by decide) (by decide) ?_
                                                          show Steps p.tables e below (T146.setTop (mkF m 492 #[.val (.int x0), .val (.int x1), .val (.int x2), .val (.long x3), .second, .val (.int x4), .val (.int x5), .val (.int f0), .val (.int f1), .val (.int f2), .val (.int f3), .val (.int f4), .val (.int (x4 &&& (3 : Int32))), .val (.ref pp), .val (.int sz), .val (.ref b60), .val (.ref b100), .val (.int z5), .val (.int (z4 + (4 : Int32))), .unset, .unset, .unset] [])) _
                                                          refine XS.iload X146.here hx rfl (hb hby at_492) rfl ?_
                                                          show Steps p.tables e below (T146.setTop (mkF m 494 #[.val (.int x0), .val (.int x1), .val (.int x2), .val (.long x3), .second, .val (.int x4), .val (.int x5), .val (.int f0), .val (.int f1), .val (.int f2), .val (.int f3), .val (.int f4), .val (.int (x4 &&& (3 : Int32))), .val (.ref pp), .val (.int sz), .val (.ref b60), .val (.ref b100), .val (.int z5), .val (.int (z4 + (4 : Int32))), .unset, .unset, .unset] [(.int sz)])) _
                                                          refine XS.iconst X146.here hx rfl (hb hby at_494) ?_
                                                          show Steps p.tables e below (T146.setTop (mkF m 495 #[.val (.int x0), .val (.int x1), .val (.int x2), .val (.long x3), .second, .val (.int x4), .val (.int x5), .val (.int f0), .val (.int f1), .val (.int f2), .val (.int f3), .val (.int f4), .val (.int (x4 &&& (3 : Int32))), .val (.ref pp), .val (.int sz), .val (.ref b60), .val (.ref b100), .val (.int z5), .val (.int (z4 + (4 : Int32))), .unset, .unset, .unset] [(.int (3 : Int32)), (.int sz)])) _
                                                          exact k)
                                                        by_cases hc170 : (3 : Int32) < sz
                                                        · skip
                                                          as_aux_lemma =>
                                                            obtain ⟨cl171, Ar171, q171, S171, M171, H171, G171⟩ := id V100
                                                            have hr171 : (¬ ((z4 + (4 : Int32)) + (1 : Int32)) < 0 ∧ ((z4 + (4 : Int32)) + (1 : Int32)) < z5) ∧ (List.map Value.int D5).getD (((z4 + (4 : Int32)) + (1 : Int32))).toNatClampNeg (.int (0 : Int32)) = .int (0 : Int32) := own_rd (j := ((z4 + (4 : Int32)) + (1 : Int32))) 1 hDP ha4 hz5 (by rw [own_add ha4 (show (1 : Int32).toInt = 1 from rfl) (by omega) (by omega) (by have q_ := hb4_; rw [hla4]; omega), ha4]; rfl) (by have q_ := own_gt hzp hc170 (j := 3) rfl; omega) (v := (0 : Int32)) (hP3 hc170)
                                                            have hin171 : ¬ (((z4 + (4 : Int32)) + (1 : Int32)) < 0 ∨ cl171.slots.size ≤ (((z4 + (4 : Int32)) + (1 : Int32))).toNatClampNeg) := inb_of S171 hr171.1
                                                            have pre172 : ∀ t, Steps p.tables e below (T146.setTop (mkF m 510 #[.val (.int x0), .val (.int x1), .val (.int x2), .val (.long x3), .second, .val (.int x4), .val (.int x5), .val (.int f0), .val (.int f1), .val (.int f2), .val (.int f3), .val (.int f4), .val (.int (x4 &&& (3 : Int32))), .val (.ref pp), .val (.int sz), .val (.ref b60), .val (.ref b100), .val (.int z5), .val (.int (z4 + (4 : Int32))), .unset, .unset, .unset] [])) t → Steps p.tables e below (s₁.setTop (entryFrame m #[(.int x0), (.int x1), (.int x2), (.long x3), (.int x4), (.int x5)] maxLocals)) t := fun t k => pre169 t (by
                                                              refine XS.icmpNo X146.here hx rfl (hb hby at_495) rfl (tlt hc170).2.2.2 ?_
                                                              show Steps p.tables e below (T146.setTop (mkF m 498 #[.val (.int x0), .val (.int x1), .val (.int x2), .val (.long x3), .second, .val (.int x4), .val (.int x5), .val (.int f0), .val (.int f1), .val (.int f2), .val (.int f3), .val (.int f4), .val (.int (x4 &&& (3 : Int32))), .val (.ref pp), .val (.int sz), .val (.ref b60), .val (.ref b100), .val (.int z5), .val (.int (z4 + (4 : Int32))), .unset, .unset, .unset] [])) _
                                                              refine XS.aload X146.here hx rfl (hb hby at_498) rfl rfl ?_
                                                              show Steps p.tables e below (T146.setTop (mkF m 500 #[.val (.int x0), .val (.int x1), .val (.int x2), .val (.long x3), .second, .val (.int x4), .val (.int x5), .val (.int f0), .val (.int f1), .val (.int f2), .val (.int f3), .val (.int f4), .val (.int (x4 &&& (3 : Int32))), .val (.ref pp), .val (.int sz), .val (.ref b60), .val (.ref b100), .val (.int z5), .val (.int (z4 + (4 : Int32))), .unset, .unset, .unset] [(.ref b100)])) _
                                                              refine XS.iload X146.here hx rfl (hb hby at_500) rfl ?_
                                                              show Steps p.tables e below (T146.setTop (mkF m 502 #[.val (.int x0), .val (.int x1), .val (.int x2), .val (.long x3), .second, .val (.int x4), .val (.int x5), .val (.int f0), .val (.int f1), .val (.int f2), .val (.int f3), .val (.int f4), .val (.int (x4 &&& (3 : Int32))), .val (.ref pp), .val (.int sz), .val (.ref b60), .val (.ref b100), .val (.int z5), .val (.int (z4 + (4 : Int32))), .unset, .unset, .unset] [(.int (z4 + (4 : Int32))), (.ref b100)])) _
                                                              refine XS.iconst X146.here hx rfl (hb hby at_502) ?_
                                                              show Steps p.tables e below (T146.setTop (mkF m 503 #[.val (.int x0), .val (.int x1), .val (.int x2), .val (.long x3), .second, .val (.int x4), .val (.int x5), .val (.int f0), .val (.int f1), .val (.int f2), .val (.int f3), .val (.int f4), .val (.int (x4 &&& (3 : Int32))), .val (.ref pp), .val (.int sz), .val (.ref b60), .val (.ref b100), .val (.int z5), .val (.int (z4 + (4 : Int32))), .unset, .unset, .unset] [(.int (1 : Int32)), (.int (z4 + (4 : Int32))), (.ref b100)])) _
                                                              refine XS.iadd X146.here hx rfl (hb hby at_503) rfl ?_
                                                              show Steps p.tables e below (T146.setTop (mkF m 504 #[.val (.int x0), .val (.int x1), .val (.int x2), .val (.long x3), .second, .val (.int x4), .val (.int x5), .val (.int f0), .val (.int f1), .val (.int f2), .val (.int f3), .val (.int f4), .val (.int (x4 &&& (3 : Int32))), .val (.ref pp), .val (.int sz), .val (.ref b60), .val (.ref b100), .val (.int z5), .val (.int (z4 + (4 : Int32))), .unset, .unset, .unset] [(.int ((z4 + (4 : Int32)) + (1 : Int32))), (.ref b100)])) _
                                                              refine X146.baloadBytes hx (j := ((z4 + (4 : Int32)) + (1 : Int32))) (v := (.int (0 : Int32))) (by rw [e146]; exact Ar171.1) (State.isArrayOf_alike hZ.alike Ar171.2.1) Ar171.2.2 hin171 (H171.at hin171 hr171.2) (g := (mkF m 504 #[.val (.int x0), .val (.int x1), .val (.int x2), .val (.long x3), .second, .val (.int x4), .val (.int x5), .val (.int f0), .val (.int f1), .val (.int f2), .val (.int f3), .val (.int f4), .val (.int (x4 &&& (3 : Int32))), .val (.ref pp), .val (.int sz), .val (.ref b60), .val (.ref b100), .val (.int z5), .val (.int (z4 + (4 : Int32))), .unset, .unset, .unset] [(.int ((z4 + (4 : Int32)) + (1 : Int32))), (.ref b100)])) rfl rfl (hb hby at_504) _ ?_
                                                              show Steps p.tables e below (T146.setTop (mkF m 505 #[.val (.int x0), .val (.int x1), .val (.int x2), .val (.long x3), .second, .val (.int x4), .val (.int x5), .val (.int f0), .val (.int f1), .val (.int f2), .val (.int f3), .val (.int f4), .val (.int (x4 &&& (3 : Int32))), .val (.ref pp), .val (.int sz), .val (.ref b60), .val (.ref b100), .val (.int z5), .val (.int (z4 + (4 : Int32))), .unset, .unset, .unset] [(.int (0 : Int32))])) _
                                                              refine XS.ifYes X146.here hx rfl (pc0 := 505) (pc' := 510) rfl (hb hby at_505) rfl ((if0 _ _).trans (teq (by decide : (0 : Int32) = (0 : Int32))).1) (by decide) (by decide) ?_
                                                              exact k)
                                                            as_aux_lemma =>
                                                              exact ⟨T146, _, (z4 + (4 : Int32)), X146.more (by decide) (by decide), e146, N146, fun t k => pre172 t k⟩
                                                        · skip
                                                          as_aux_lemma =>
                                                            have pre173 : ∀ t, Steps p.tables e below (T146.setTop (mkF m 510 #[.val (.int x0), .val (.int x1), .val (.int x2), .val (.long x3), .second, .val (.int x4), .val (.int x5), .val (.int f0), .val (.int f1), .val (.int f2), .val (.int f3), .val (.int f4), .val (.int (x4 &&& (3 : Int32))), .val (.ref pp), .val (.int sz), .val (.ref b60), .val (.ref b100), .val (.int z5), .val (.int (z4 + (4 : Int32))), .unset, .unset, .unset] [])) t → Steps p.tables e below (s₁.setTop (entryFrame m #[(.int x0), (.int x1), (.int x2), (.long x3), (.int x4), (.int x5)] maxLocals)) t := fun t k => pre169 t (by
                                                              refine XS.icmpYes X146.here hx rfl (pc0 := 495) (pc' := 510) rfl (hb hby at_495) rfl (flt hc170).2.2.2 (by decide) (by decide) ?_
                                                              exact k)
                                                            as_aux_lemma =>
                                                              exact ⟨T146, _, (z4 + (4 : Int32)), X146.more (by decide) (by decide), e146, N146, fun t k => pre173 t k⟩
                                                    · skip
                                                      as_aux_lemma =>
                                                        have pre174 : ∀ t, Steps p.tables e below (T146.setTop (mkF m 495 #[.val (.int x0), .val (.int x1), .val (.int x2), .val (.long x3), .second, .val (.int x4), .val (.int x5), .val (.int f0), .val (.int f1), .val (.int f2), .val (.int f3), .val (.int f4), .val (.int (x4 &&& (3 : Int32))), .val (.ref pp), .val (.int sz), .val (.ref b60), .val (.ref b100), .val (.int z5), .val (.int (z4 + (4 : Int32))), .unset, .unset, .unset] [(.int (3 : Int32)), (.int sz)])) t → Steps p.tables e below (s₁.setTop (entryFrame m #[(.int x0), (.int x1), (.int x2), (.long x3), (.int x4), (.int x5)] maxLocals)) t := fun t k => pre166 t (by
                                                          refine XS.icmpYes X146.here hx rfl (pc0 := 468) (pc' := 492) rfl (hb hby at_468) rfl (flt hc167).2.2.2 (by decide) (by decide) ?_
                                                          show Steps p.tables e below (T146.setTop (mkF m 492 #[.val (.int x0), .val (.int x1), .val (.int x2), .val (.long x3), .second, .val (.int x4), .val (.int x5), .val (.int f0), .val (.int f1), .val (.int f2), .val (.int f3), .val (.int f4), .val (.int (x4 &&& (3 : Int32))), .val (.ref pp), .val (.int sz), .val (.ref b60), .val (.ref b100), .val (.int z5), .val (.int (z4 + (4 : Int32))), .unset, .unset, .unset] [])) _
                                                          refine XS.iload X146.here hx rfl (hb hby at_492) rfl ?_
                                                          show Steps p.tables e below (T146.setTop (mkF m 494 #[.val (.int x0), .val (.int x1), .val (.int x2), .val (.long x3), .second, .val (.int x4), .val (.int x5), .val (.int f0), .val (.int f1), .val (.int f2), .val (.int f3), .val (.int f4), .val (.int (x4 &&& (3 : Int32))), .val (.ref pp), .val (.int sz), .val (.ref b60), .val (.ref b100), .val (.int z5), .val (.int (z4 + (4 : Int32))), .unset, .unset, .unset] [(.int sz)])) _
                                                          refine XS.iconst X146.here hx rfl (hb hby at_494) ?_
                                                          show Steps p.tables e below (T146.setTop (mkF m 495 #[.val (.int x0), .val (.int x1), .val (.int x2), .val (.long x3), .second, .val (.int x4), .val (.int x5), .val (.int f0), .val (.int f1), .val (.int f2), .val (.int f3), .val (.int f4), .val (.int (x4 &&& (3 : Int32))), .val (.ref pp), .val (.int sz), .val (.ref b60), .val (.ref b100), .val (.int z5), .val (.int (z4 + (4 : Int32))), .unset, .unset, .unset] [(.int (3 : Int32)), (.int sz)])) _
                                                          exact k)
                                                        by_cases hc175 : (3 : Int32) < sz
                                                        · skip
                                                          as_aux_lemma =>
                                                            obtain ⟨cl176, Ar176, q176, S176, M176, H176, G176⟩ := id V100
                                                            have hr176 : (¬ ((z4 + (4 : Int32)) + (1 : Int32)) < 0 ∧ ((z4 + (4 : Int32)) + (1 : Int32)) < z5) ∧ (List.map Value.int D5).getD (((z4 + (4 : Int32)) + (1 : Int32))).toNatClampNeg (.int (0 : Int32)) = .int (0 : Int32) := own_rd (j := ((z4 + (4 : Int32)) + (1 : Int32))) 1 hDP ha4 hz5 (by rw [own_add ha4 (show (1 : Int32).toInt = 1 from rfl) (by omega) (by omega) (by have q_ := hb4_; rw [hla4]; omega), ha4]; rfl) (by have q_ := own_gt hzp hc175 (j := 3) rfl; omega) (v := (0 : Int32)) (hP3 hc175)
                                                            have hin176 : ¬ (((z4 + (4 : Int32)) + (1 : Int32)) < 0 ∨ cl176.slots.size ≤ (((z4 + (4 : Int32)) + (1 : Int32))).toNatClampNeg) := inb_of S176 hr176.1
                                                            have pre177 : ∀ t, Steps p.tables e below (T146.setTop (mkF m 510 #[.val (.int x0), .val (.int x1), .val (.int x2), .val (.long x3), .second, .val (.int x4), .val (.int x5), .val (.int f0), .val (.int f1), .val (.int f2), .val (.int f3), .val (.int f4), .val (.int (x4 &&& (3 : Int32))), .val (.ref pp), .val (.int sz), .val (.ref b60), .val (.ref b100), .val (.int z5), .val (.int (z4 + (4 : Int32))), .unset, .unset, .unset] [])) t → Steps p.tables e below (s₁.setTop (entryFrame m #[(.int x0), (.int x1), (.int x2), (.long x3), (.int x4), (.int x5)] maxLocals)) t := fun t k => pre174 t (by
                                                              refine XS.icmpNo X146.here hx rfl (hb hby at_495) rfl (tlt hc175).2.2.2 ?_
                                                              show Steps p.tables e below (T146.setTop (mkF m 498 #[.val (.int x0), .val (.int x1), .val (.int x2), .val (.long x3), .second, .val (.int x4), .val (.int x5), .val (.int f0), .val (.int f1), .val (.int f2), .val (.int f3), .val (.int f4), .val (.int (x4 &&& (3 : Int32))), .val (.ref pp), .val (.int sz), .val (.ref b60), .val (.ref b100), .val (.int z5), .val (.int (z4 + (4 : Int32))), .unset, .unset, .unset] [])) _
                                                              refine XS.aload X146.here hx rfl (hb hby at_498) rfl rfl ?_
                                                              show Steps p.tables e below (T146.setTop (mkF m 500 #[.val (.int x0), .val (.int x1), .val (.int x2), .val (.long x3), .second, .val (.int x4), .val (.int x5), .val (.int f0), .val (.int f1), .val (.int f2), .val (.int f3), .val (.int f4), .val (.int (x4 &&& (3 : Int32))), .val (.ref pp), .val (.int sz), .val (.ref b60), .val (.ref b100), .val (.int z5), .val (.int (z4 + (4 : Int32))), .unset, .unset, .unset] [(.ref b100)])) _
                                                              refine XS.iload X146.here hx rfl (hb hby at_500) rfl ?_
                                                              show Steps p.tables e below (T146.setTop (mkF m 502 #[.val (.int x0), .val (.int x1), .val (.int x2), .val (.long x3), .second, .val (.int x4), .val (.int x5), .val (.int f0), .val (.int f1), .val (.int f2), .val (.int f3), .val (.int f4), .val (.int (x4 &&& (3 : Int32))), .val (.ref pp), .val (.int sz), .val (.ref b60), .val (.ref b100), .val (.int z5), .val (.int (z4 + (4 : Int32))), .unset, .unset, .unset] [(.int (z4 + (4 : Int32))), (.ref b100)])) _
                                                              refine XS.iconst X146.here hx rfl (hb hby at_502) ?_
                                                              show Steps p.tables e below (T146.setTop (mkF m 503 #[.val (.int x0), .val (.int x1), .val (.int x2), .val (.long x3), .second, .val (.int x4), .val (.int x5), .val (.int f0), .val (.int f1), .val (.int f2), .val (.int f3), .val (.int f4), .val (.int (x4 &&& (3 : Int32))), .val (.ref pp), .val (.int sz), .val (.ref b60), .val (.ref b100), .val (.int z5), .val (.int (z4 + (4 : Int32))), .unset, .unset, .unset] [(.int (1 : Int32)), (.int (z4 + (4 : Int32))), (.ref b100)])) _
                                                              refine XS.iadd X146.here hx rfl (hb hby at_503) rfl ?_
                                                              show Steps p.tables e below (T146.setTop (mkF m 504 #[.val (.int x0), .val (.int x1), .val (.int x2), .val (.long x3), .second, .val (.int x4), .val (.int x5), .val (.int f0), .val (.int f1), .val (.int f2), .val (.int f3), .val (.int f4), .val (.int (x4 &&& (3 : Int32))), .val (.ref pp), .val (.int sz), .val (.ref b60), .val (.ref b100), .val (.int z5), .val (.int (z4 + (4 : Int32))), .unset, .unset, .unset] [(.int ((z4 + (4 : Int32)) + (1 : Int32))), (.ref b100)])) _
                                                              refine X146.baloadBytes hx (j := ((z4 + (4 : Int32)) + (1 : Int32))) (v := (.int (0 : Int32))) (by rw [e146]; exact Ar176.1) (State.isArrayOf_alike hZ.alike Ar176.2.1) Ar176.2.2 hin176 (H176.at hin176 hr176.2) (g := (mkF m 504 #[.val (.int x0), .val (.int x1), .val (.int x2), .val (.long x3), .second, .val (.int x4), .val (.int x5), .val (.int f0), .val (.int f1), .val (.int f2), .val (.int f3), .val (.int f4), .val (.int (x4 &&& (3 : Int32))), .val (.ref pp), .val (.int sz), .val (.ref b60), .val (.ref b100), .val (.int z5), .val (.int (z4 + (4 : Int32))), .unset, .unset, .unset] [(.int ((z4 + (4 : Int32)) + (1 : Int32))), (.ref b100)])) rfl rfl (hb hby at_504) _ ?_
                                                              show Steps p.tables e below (T146.setTop (mkF m 505 #[.val (.int x0), .val (.int x1), .val (.int x2), .val (.long x3), .second, .val (.int x4), .val (.int x5), .val (.int f0), .val (.int f1), .val (.int f2), .val (.int f3), .val (.int f4), .val (.int (x4 &&& (3 : Int32))), .val (.ref pp), .val (.int sz), .val (.ref b60), .val (.ref b100), .val (.int z5), .val (.int (z4 + (4 : Int32))), .unset, .unset, .unset] [(.int (0 : Int32))])) _
                                                              refine XS.ifYes X146.here hx rfl (pc0 := 505) (pc' := 510) rfl (hb hby at_505) rfl ((if0 _ _).trans (teq (by decide : (0 : Int32) = (0 : Int32))).1) (by decide) (by decide) ?_
                                                              exact k)
                                                            as_aux_lemma =>
                                                              exact ⟨T146, _, (z4 + (4 : Int32)), X146.more (by decide) (by decide), e146, N146, fun t k => pre177 t k⟩
                                                        · skip
                                                          as_aux_lemma =>
                                                            have pre178 : ∀ t, Steps p.tables e below (T146.setTop (mkF m 510 #[.val (.int x0), .val (.int x1), .val (.int x2), .val (.long x3), .second, .val (.int x4), .val (.int x5), .val (.int f0), .val (.int f1), .val (.int f2), .val (.int f3), .val (.int f4), .val (.int (x4 &&& (3 : Int32))), .val (.ref pp), .val (.int sz), .val (.ref b60), .val (.ref b100), .val (.int z5), .val (.int (z4 + (4 : Int32))), .unset, .unset, .unset] [])) t → Steps p.tables e below (s₁.setTop (entryFrame m #[(.int x0), (.int x1), (.int x2), (.long x3), (.int x4), (.int x5)] maxLocals)) t := fun t k => pre174 t (by
                                                              refine XS.icmpYes X146.here hx rfl (pc0 := 495) (pc' := 510) rfl (hb hby at_495) rfl (flt hc175).2.2.2 (by decide) (by decide) ?_
                                                              exact k)
                                                            as_aux_lemma =>
                                                              exact ⟨T146, _, (z4 + (4 : Int32)), X146.more (by decide) (by decide), e146, N146, fun t k => pre178 t k⟩
                                            · skip
                                              as_aux_lemma =>
                                                have pre179 : ∀ t, Steps p.tables e below (T146.setTop (mkF m 510 #[.val (.int x0), .val (.int x1), .val (.int x2), .val (.long x3), .second, .val (.int x4), .val (.int x5), .val (.int f0), .val (.int f1), .val (.int f2), .val (.int f3), .val (.int f4), .val (.int (x4 &&& (3 : Int32))), .val (.ref pp), .val (.int sz), .val (.ref b60), .val (.ref b100), .val (.int z5), .val (.int (z4 + (4 : Int32))), .unset, .unset, .unset] [])) t → Steps p.tables e below (s₁.setTop (entryFrame m #[(.int x0), (.int x1), (.int x2), (.long x3), (.int x4), (.int x5)] maxLocals)) t := fun t k => pre147 t (by
                                                  refine XS.ifYes X146.here hx rfl (pc0 := 422) (pc' := 510) rfl (hb hby at_422) rfl ((if0 _ _).trans (flt hc148).2.2.2) (by decide) (by decide) ?_
                                                  exact k)
                                                as_aux_lemma =>
                                                  exact ⟨T146, _, (z4 + (4 : Int32)), X146.more (by decide) (by decide), e146, N146, fun t k => pre179 t k⟩
                                      as_aux_lemma =>
                                        have pre180 : ∀ t, Steps p.tables e below (T142.setTop (mkF m 515 #[.val (.int x0), .val (.int x1), .val (.int x2), .val (.long x3), .second, .val (.int x4), .val (.int x5), .val (.int f0), .val (.int f1), .val (.int f2), .val (.int f3), .val (.int f4), .val (.int (x4 &&& (3 : Int32))), .val (.ref pp), .val (.int sz), .val (.ref b60), .val (.ref b100), .val (.int z5), .val (.int ps), .val (.int (0 : Int32)), .unset, .unset] [(.int z5)])) t → Steps p.tables e below (s₁.setTop (entryFrame m #[(.int x0), (.int x1), (.int x2), (.long x3), (.int x4), (.int x5)] maxLocals)) t := fun t k => pre142 t (by
                                          show Steps p.tables e below (T142.setTop (mkF m 510 #[.val (.int x0), .val (.int x1), .val (.int x2), .val (.long x3), .second, .val (.int x4), .val (.int x5), .val (.int f0), .val (.int f1), .val (.int f2), .val (.int f3), .val (.int f4), .val (.int (x4 &&& (3 : Int32))), .val (.ref pp), .val (.int sz), .val (.ref b60), .val (.ref b100), .val (.int z5), .val (.int ps), .unset, .unset, .unset] [])) _
                                          refine XS.iconst X142.here hx rfl (hb hby at_510) ?_
                                          show Steps p.tables e below (T142.setTop (mkF m 511 #[.val (.int x0), .val (.int x1), .val (.int x2), .val (.long x3), .second, .val (.int x4), .val (.int x5), .val (.int f0), .val (.int f1), .val (.int f2), .val (.int f3), .val (.int f4), .val (.int (x4 &&& (3 : Int32))), .val (.ref pp), .val (.int sz), .val (.ref b60), .val (.ref b100), .val (.int z5), .val (.int ps), .unset, .unset, .unset] [(.int (0 : Int32))])) _
                                          refine XS.istore X142.here hx rfl (hb hby at_511) rfl (l' := #[.val (.int x0), .val (.int x1), .val (.int x2), .val (.long x3), .second, .val (.int x4), .val (.int x5), .val (.int f0), .val (.int f1), .val (.int f2), .val (.int f3), .val (.int f4), .val (.int (x4 &&& (3 : Int32))), .val (.ref pp), .val (.int sz), .val (.ref b60), .val (.ref b100), .val (.int z5), .val (.int ps), .val (.int (0 : Int32)), .unset, .unset]) rfl ?_
                                          show Steps p.tables e below (T142.setTop (mkF m 513 #[.val (.int x0), .val (.int x1), .val (.int x2), .val (.long x3), .second, .val (.int x4), .val (.int x5), .val (.int f0), .val (.int f1), .val (.int f2), .val (.int f3), .val (.int f4), .val (.int (x4 &&& (3 : Int32))), .val (.ref pp), .val (.int sz), .val (.ref b60), .val (.ref b100), .val (.int z5), .val (.int ps), .val (.int (0 : Int32)), .unset, .unset] [])) _
                                          refine XS.iload X142.here hx rfl (hb hby at_513) rfl ?_
                                          show Steps p.tables e below (T142.setTop (mkF m 515 #[.val (.int x0), .val (.int x1), .val (.int x2), .val (.long x3), .second, .val (.int x4), .val (.int x5), .val (.int f0), .val (.int f1), .val (.int f2), .val (.int f3), .val (.int f4), .val (.int (x4 &&& (3 : Int32))), .val (.ref pp), .val (.int sz), .val (.ref b60), .val (.ref b100), .val (.int z5), .val (.int ps), .val (.int (0 : Int32)), .unset, .unset] [(.int z5)])) _
                                          exact k)
                                        by_cases hc181 : (0 : Int32) < z5
                                        · skip
                                          as_aux_lemma =>
                                            obtain ⟨cl182, Ar182, q182, S182, M182, H182, G182⟩ := id V100
                                            have hr182 : (¬ (0 : Int32) < 0 ∧ (0 : Int32) < z5) ∧ (List.map Value.int D5).getD ((0 : Int32)).toNatClampNeg (.int (0 : Int32)) = .int (D5.getD 0 0) := own_rd0 hz5 hc181
                                            have hin182 : ¬ ((0 : Int32) < 0 ∨ cl182.slots.size ≤ ((0 : Int32)).toNatClampNeg) := inb_of S182 hr182.1
                                            obtain ⟨cl183, Ar183, q183, S183, M183, H183, G183⟩ := id V100
                                            have hin183 : ¬ ((0 : Int32) < 0 ∨ cl183.slots.size ≤ ((0 : Int32)).toNatClampNeg) := inb_of S183 (own_rd0 hz5 hc181).1
                                            obtain ⟨T184, h184, X184, e184, W184, st184⟩ := stB X142 hx hZ e142 Ar183 (j := (0 : Int32)) hin183 (g := (mkF m 532 #[.val (.int x0), .val (.int x1), .val (.int x2), .val (.long x3), .second, .val (.int x4), .val (.int x5), .val (.int f0), .val (.int f1), .val (.int f2), .val (.int f3), .val (.int f4), .val (.int (x4 &&& (3 : Int32))), .val (.ref pp), .val (.int sz), .val (.ref b60), .val (.ref b100), .val (.int z5), .val (.int ps), .val (.int (D5.getD 0 0)), .unset, .unset] [(.int (((D5.getD 0 0) ^^^ (1 : Int32)).toInt8.toInt32)), (.int (0 : Int32)), (.ref b100)])) rfl rfl (hb hby at_532)
                                            have Ew := Ew.wr W184
                                            have Fb := Fb.other W184 (Or.inl ne_b60_b100)
                                            have Fl := Fl.other W184 (Or.inl ne_b60_b100)
                                            have Vb := Vb.other W184 ne_bb_b100
                                            have Eb := Eb.wr W184
                                            have Z185 : n0 ≤ h184.size := Nat.le_trans Z101 (Keep.of_wr W184).1
                                            have V100 : Arv Z h184 b100 kq100 .byte z5 (List.map Value.int (D5.set 0 (((D5.getD 0 0) ^^^ (1 : Int32)).toInt8.toInt32))) (.int (0 : Int32)) := own_setP Ar183 q183 S183 M183 H183 G183 W184 (own_ni _) 0 rfl (own_pl hz5 hc181)
                                            have N184 := Fr.snoc X184 N142 g_b100
                                            obtain ⟨cq186, kq186, q186a, q186b, q186c⟩ := isOf hZ e184 Ew
                                            obtain ⟨_, _, ⟨T186, L186, k186, n186⟩, -, X186, ⟨Lc186, hQ186, l186, y186, z186⟩, st186⟩ := X184.virtualBack hx (y := (⟨"com/example/vigilant_consumer/vigilantconsumer/ProtocolWriter", "toByteArray", "()[B"⟩ : MethodName)) (z := (⟨"com/example/vigilant_consumer/vigilantconsumer/ProtocolWriter", "toByteArray", "()[B"⟩ : MethodName)) hown (mvT hZ (hw _ (List.mem_of_getElem? (i := 12) rfl))) (mvT hZ (hw _ (List.mem_of_getElem? (i := 13) rfl))) (notFace_of_selects (args := #[]) (mvT hZ (hw _ (List.mem_of_getElem? (i := 15) rfl)))) (mvT hZ (hw _ (List.mem_of_getElem? (i := 15) rfl))) (mvT hZ (hw _ (List.mem_of_getElem? (i := 14) rfl))) (by decide) (backOf (W := 0) (own_toB l Z a0 hw [] b60 bb kk cc z5 D5 h184 n0 Z185 Fb Fl Vb Eb hz5 hcl (own_c64 hcc).2) hZ (hw _ (List.mem_of_getElem? (i := 16) rfl)) (hw _ (List.mem_of_getElem? (i := 3) rfl)) (by decide) (by decide)) q186a q186c (g := (mkF m 535 #[.val (.int x0), .val (.int x1), .val (.int x2), .val (.long x3), .second, .val (.int x4), .val (.int x5), .val (.int f0), .val (.int f1), .val (.int f2), .val (.int f3), .val (.int f4), .val (.int (x4 &&& (3 : Int32))), .val (.ref pp), .val (.int sz), .val (.ref b60), .val (.ref b100), .val (.int z5), .val (.int ps), .val (.int (D5.getD 0 0)), .unset, .unset] [(.ref b60)])) rfl (by rw [hml]; rfl) (Steps.refl _) (argsL := []) (rest := []) (lenOf own_pd7 rfl) rfl (by show 2 * 0 + _ ≤ _; exact Nat.le_of_eq rfl) (hb hby at_535) (fun _ _ => ⟨rfl, e184, (by decide : 5 + 1 ≤ _), (by decide : 422 + 128 ≤ _)⟩)
                                            dsimp only [Pt.U, Pt.locs, Pt.cells, Pt.slots] at X186 l186 y186 z186 st186 hQ186
                                            subst l186 y186 z186
                                            obtain ⟨b186, kq186, rfl, N186q, K186, sz186, V186, Q186⟩ := hQ186
                                            have N186 := Fr.app N184 N186q
                                            have g_b186 : n0 ≤ b186 := Nat.le_trans Z185 sz186
                                            have ne_b60_b186 : b60 ≠ b186 := Nat.ne_of_lt (Nat.lt_of_lt_of_le Ew.lt sz186)
                                            have ne_bb_b186 : bb ≠ b186 := Nat.ne_of_lt (Nat.lt_of_lt_of_le Vb.lt sz186)
                                            have ne_b100_b186 : b100 ≠ b186 := Nat.ne_of_lt (Nat.lt_of_lt_of_le V100.lt sz186)
                                            have Ew := Ew.keep K186
                                            have Fb := Fb.keep K186 nin0
                                            have Fl := Fl.keep K186 nin0
                                            have Vb := Vb.keep K186 nin0
                                            have Eb := Eb.keep K186
                                            have V100 := V100.keep K186 nin0
                                            have Z187 := Nat.le_trans Z185 K186.1
                                            obtain ⟨cl188, Ar188, q188, S188, M188, H188, G188⟩ := id V186
                                            obtain ⟨cl189, Ar189, q189, S189, M189, H189, G189⟩ := id V186
                                            have hr189 : (¬ (0 : Int32) < 0 ∧ (0 : Int32) < z5) ∧ (List.map Value.int D5).getD ((0 : Int32)).toNatClampNeg (.int (0 : Int32)) = .int (D5.getD 0 0) := own_rd0 hz5 hc181
                                            have hin189 : ¬ ((0 : Int32) < 0 ∨ cl189.slots.size ≤ ((0 : Int32)).toNatClampNeg) := inb_of S189 hr189.1
                                            obtain ⟨cq190, kq190, q190a, q190b, q190c⟩ := isOf hZ rfl Ew
                                            obtain ⟨_, _, ⟨T190, L190, k190, n190⟩, -, X190, ⟨Lc190, hQ190, l190, y190, z190⟩, st190⟩ := X186.virtualBack hx (y := (⟨"com/example/vigilant_consumer/vigilantconsumer/ProtocolWriter", "int8", "(I)V"⟩ : MethodName)) (z := (⟨"com/example/vigilant_consumer/vigilantconsumer/ProtocolWriter", "int8", "(I)V"⟩ : MethodName)) hown (mvT hZ (hw _ (List.mem_of_getElem? (i := 31) rfl))) (mvT hZ (hw _ (List.mem_of_getElem? (i := 32) rfl))) (notFace_of_selects (args := #[]) (mvT hZ (hw _ (List.mem_of_getElem? (i := 34) rfl)))) (mvT hZ (hw _ (List.mem_of_getElem? (i := 34) rfl))) (mvT hZ (hw _ (List.mem_of_getElem? (i := 33) rfl))) (by decide) (backOf (W := 0) (own_int8G l Z a0 hw [] b60 ((x4.toUInt32 >>> ((2 : Int32) &&& 31).toUInt32).toInt32) bb kk cc z5 D5 T186.heap n0 Z187 Ew Fb Fl Vb Eb g_b60 gbb hz5 hcc hcl (by have q_ := hb5_; omega)) hZ (hw _ (List.mem_of_getElem? (i := 35) rfl)) (hw _ (List.mem_of_getElem? (i := 3) rfl)) (by decide) (by decide)) q190a q190c (g := (mkF m 569 #[.val (.int x0), .val (.int x1), .val (.int x2), .val (.long x3), .second, .val (.int x4), .val (.int x5), .val (.int f0), .val (.int f1), .val (.int f2), .val (.int f3), .val (.int f4), .val (.int (x4 &&& (3 : Int32))), .val (.ref pp), .val (.int sz), .val (.ref b60), .val (.ref b100), .val (.int z5), .val (.int ps), .val (.int (D5.getD 0 0)), .val (.int ((x4.toUInt32 >>> ((2 : Int32) &&& 31).toUInt32).toInt32)), .unset] [(.int ((x4.toUInt32 >>> ((2 : Int32) &&& 31).toUInt32).toInt32)), (.ref b60)])) rfl (by rw [hml]; rfl) (Steps.refl _) (argsL := [(.int ((x4.toUInt32 >>> ((2 : Int32) &&& 31).toUInt32).toInt32))]) (rest := []) (lenOf own_pd0 rfl) rfl (by show 2 * 0 + _ ≤ _; exact Nat.le_of_eq rfl) (hb hby at_569) (fun _ _ => ⟨rfl, rfl, (by decide : 6 + 1 ≤ _), (by decide : 550 + 128 ≤ _)⟩)
                                            dsimp only [Pt.U, Pt.locs, Pt.cells, Pt.slots] at X190 l190 y190 z190 st190 hQ190
                                            subst l190 y190 z190
                                            obtain ⟨b190, kq190, cg190, rfl, N190q, K190, Fb190, Fl190, V190, Q190, hb190, hcc190, hnd190⟩ := hQ190
                                            have g_b190 : n0 ≤ b190 := hb190.elim (fun q_ => by rw [q_]; exact gbb) (fun q_ => Nat.le_trans Z187 q_)
                                            have N190 := Fr.app N186 N190q
                                            have Ew := Ew.keep K190
                                            have Eb := Eb.keep K190
                                            have V100 := V100.keep K190 (ninS (Ne.symm ne_b60_b100) (ninS (Ne.symm ne_bb_b100) nin0))
                                            have V186 := V186.keep K190 (ninS (Ne.symm ne_b60_b186) (ninS (Ne.symm ne_bb_b186) nin0))
                                            have Z191 := Nat.le_trans Z187 K190.1
                                            have hz6 : (z5 + (1 : Int32)).toInt = ((D5 ++ [(((x4.toUInt32 >>> ((2 : Int32) &&& 31).toUInt32).toInt32).toInt8.toInt32)]).length : Int) := own_hz1 hz5 (by have q_ := hb5_; omega)
                                            obtain ⟨cq192, kq192, q192a, q192b, q192c⟩ := isOf hZ rfl Ew
                                            obtain ⟨_, _, ⟨T192, L192, k192, n192⟩, -, X192, ⟨Lc192, hQ192, l192, y192, z192⟩, st192⟩ := X190.virtualBack hx (y := (⟨"com/example/vigilant_consumer/vigilantconsumer/ProtocolWriter", "toByteArray", "()[B"⟩ : MethodName)) (z := (⟨"com/example/vigilant_consumer/vigilantconsumer/ProtocolWriter", "toByteArray", "()[B"⟩ : MethodName)) hown (mvT hZ (hw _ (List.mem_of_getElem? (i := 12) rfl))) (mvT hZ (hw _ (List.mem_of_getElem? (i := 13) rfl))) (notFace_of_selects (args := #[]) (mvT hZ (hw _ (List.mem_of_getElem? (i := 15) rfl)))) (mvT hZ (hw _ (List.mem_of_getElem? (i := 15) rfl))) (mvT hZ (hw _ (List.mem_of_getElem? (i := 14) rfl))) (by decide) (backOf (W := 0) (own_toB l Z a0 hw [] b60 b190 kq190 cg190 (z5 + (1 : Int32)) (D5 ++ [(((x4.toUInt32 >>> ((2 : Int32) &&& 31).toUInt32).toInt32).toInt8.toInt32)]) T190.heap n0 Z191 Fb190 Fl190 V190 Q190 hz6 hnd190 (own_c64 hcc190).2) hZ (hw _ (List.mem_of_getElem? (i := 16) rfl)) (hw _ (List.mem_of_getElem? (i := 3) rfl)) (by decide) (by decide)) q192a q192c (g := (mkF m 574 #[.val (.int x0), .val (.int x1), .val (.int x2), .val (.long x3), .second, .val (.int x4), .val (.int x5), .val (.int f0), .val (.int f1), .val (.int f2), .val (.int f3), .val (.int f4), .val (.int (x4 &&& (3 : Int32))), .val (.ref pp), .val (.int sz), .val (.ref b60), .val (.ref b100), .val (.int z5), .val (.int ps), .val (.int (D5.getD 0 0)), .val (.int ((x4.toUInt32 >>> ((2 : Int32) &&& 31).toUInt32).toInt32)), .unset] [(.ref b60)])) rfl (by rw [hml]; rfl) (Steps.refl _) (argsL := []) (rest := []) (lenOf own_pd7 rfl) rfl (by show 2 * 0 + _ ≤ _; exact Nat.le_of_eq rfl) (hb hby at_574) (fun _ _ => ⟨rfl, rfl, (by decide : 7 + 1 ≤ _), (by decide : 678 + 128 ≤ _)⟩)
                                            dsimp only [Pt.U, Pt.locs, Pt.cells, Pt.slots] at X192 l192 y192 z192 st192 hQ192
                                            subst l192 y192 z192
                                            obtain ⟨b192, kq192, rfl, N192q, K192, sz192, V192, Q192⟩ := hQ192
                                            have N192 := Fr.app N190 N192q
                                            have g_b192 : n0 ≤ b192 := Nat.le_trans Z191 sz192
                                            have ne_b60_b192 : b60 ≠ b192 := Nat.ne_of_lt (Nat.lt_of_lt_of_le Ew.lt sz192)
                                            have ne_b100_b192 : b100 ≠ b192 := Nat.ne_of_lt (Nat.lt_of_lt_of_le V100.lt sz192)
                                            have ne_b186_b192 : b186 ≠ b192 := Nat.ne_of_lt (Nat.lt_of_lt_of_le V186.lt sz192)
                                            have ne_b190_b192 : b190 ≠ b192 := Nat.ne_of_lt (Nat.lt_of_lt_of_le V190.lt sz192)
                                            have Ew := Ew.keep K192
                                            have V100 := V100.keep K192 nin0
                                            have V186 := V186.keep K192 nin0
                                            have Fb190 := Fb190.keep K192 nin0
                                            have Fl190 := Fl190.keep K192 nin0
                                            have V190 := V190.keep K192 nin0
                                            have Q190 := Q190.keep K192
                                            have Z193 := Nat.le_trans Z191 K192.1
                                            obtain ⟨cl194, Ar194, q194, S194, M194, H194, G194⟩ := id V192
                                            obtain ⟨cl195, Ar195, q195, S195, M195, H195, G195⟩ := id V192
                                            have hr195 : (¬ z5 < 0 ∧ z5 < (z5 + (1 : Int32))) ∧ (List.map Value.int (D5 ++ [(((x4.toUInt32 >>> ((2 : Int32) &&& 31).toUInt32).toInt32).toInt8.toInt32)])).getD (z5).toNatClampNeg (.int (0 : Int32)) = .int (((x4.toUInt32 >>> ((2 : Int32) &&& 31).toUInt32).toInt32).toInt8.toInt32) := own_rd (D := D5 ++ [(((x4.toUInt32 >>> ((2 : Int32) &&& 31).toUInt32).toInt32).toInt8.toInt32)]) (A := D5) (L := [(((x4.toUInt32 >>> ((2 : Int32) &&& 31).toUInt32).toInt32).toInt8.toInt32)]) (B := []) (at_ := z5) (j := z5) 0 (by rw [List.append_nil]) hz5 hz6 (by simp) (show 0 < 1 from by decide) (v := (((x4.toUInt32 >>> ((2 : Int32) &&& 31).toUInt32).toInt32).toInt8.toInt32)) rfl
                                            have hin195 : ¬ (z5 < 0 ∨ cl195.slots.size ≤ (z5).toNatClampNeg) := inb_of S195 hr195.1
                                            obtain ⟨cl196, Ar196, q196, S196, M196, H196, G196⟩ := id V192
                                            have hr196 : (¬ (0 : Int32) < 0 ∧ (0 : Int32) < (z5 + (1 : Int32))) ∧ (List.map Value.int (D5 ++ [(((x4.toUInt32 >>> ((2 : Int32) &&& 31).toUInt32).toInt32).toInt8.toInt32)])).getD ((0 : Int32)).toNatClampNeg (.int (0 : Int32)) = .int (D5.getD 0 0) := (show _ from ⟨(own_rd0 hz6 (own_p1 hz6)).1, (own_rd0 hz6 (own_p1 hz6)).2.trans (congrArg Value.int (own_app0 (own_pl hz5 hc181)))⟩)
                                            have hin196 : ¬ ((0 : Int32) < 0 ∨ cl196.slots.size ≤ ((0 : Int32)).toNatClampNeg) := inb_of S196 hr196.1
                                            obtain ⟨cl197, Ar197, q197, S197, M197, H197, G197⟩ := id V100
                                            obtain ⟨fs, hr, hrun, hended, hW, hsame⟩ := X192.leave (v := some (.int (1 : Int32))) (fun h => by rw [Bd.returns] at h; cases h)
                                            refine ⟨_, _, pre180 _ ?_, hrun, hended, _, _, rfl, ?_, ⟨_, rfl⟩, hW, hsame.mono (by decide) (by decide)⟩
                                            · refine XS.ifNo X142.here hx rfl (hb hby at_515) rfl ((if0 _ _).trans (tlt hc181).2.2.2) ?_
                                              show Steps p.tables e below (T142.setTop (mkF m 518 #[.val (.int x0), .val (.int x1), .val (.int x2), .val (.long x3), .second, .val (.int x4), .val (.int x5), .val (.int f0), .val (.int f1), .val (.int f2), .val (.int f3), .val (.int f4), .val (.int (x4 &&& (3 : Int32))), .val (.ref pp), .val (.int sz), .val (.ref b60), .val (.ref b100), .val (.int z5), .val (.int ps), .val (.int (0 : Int32)), .unset, .unset] [])) _
                                              refine XS.aload X142.here hx rfl (hb hby at_518) rfl rfl ?_
                                              show Steps p.tables e below (T142.setTop (mkF m 520 #[.val (.int x0), .val (.int x1), .val (.int x2), .val (.long x3), .second, .val (.int x4), .val (.int x5), .val (.int f0), .val (.int f1), .val (.int f2), .val (.int f3), .val (.int f4), .val (.int (x4 &&& (3 : Int32))), .val (.ref pp), .val (.int sz), .val (.ref b60), .val (.ref b100), .val (.int z5), .val (.int ps), .val (.int (0 : Int32)), .unset, .unset] [(.ref b100)])) _
                                              refine XS.iconst X142.here hx rfl (hb hby at_520) ?_
                                              show Steps p.tables e below (T142.setTop (mkF m 521 #[.val (.int x0), .val (.int x1), .val (.int x2), .val (.long x3), .second, .val (.int x4), .val (.int x5), .val (.int f0), .val (.int f1), .val (.int f2), .val (.int f3), .val (.int f4), .val (.int (x4 &&& (3 : Int32))), .val (.ref pp), .val (.int sz), .val (.ref b60), .val (.ref b100), .val (.int z5), .val (.int ps), .val (.int (0 : Int32)), .unset, .unset] [(.int (0 : Int32)), (.ref b100)])) _
                                              refine X142.baloadBytes hx (j := (0 : Int32)) (v := (.int (D5.getD 0 0))) (by rw [e142]; exact Ar182.1) (State.isArrayOf_alike hZ.alike Ar182.2.1) Ar182.2.2 hin182 (H182.at hin182 hr182.2) (g := (mkF m 521 #[.val (.int x0), .val (.int x1), .val (.int x2), .val (.long x3), .second, .val (.int x4), .val (.int x5), .val (.int f0), .val (.int f1), .val (.int f2), .val (.int f3), .val (.int f4), .val (.int (x4 &&& (3 : Int32))), .val (.ref pp), .val (.int sz), .val (.ref b60), .val (.ref b100), .val (.int z5), .val (.int ps), .val (.int (0 : Int32)), .unset, .unset] [(.int (0 : Int32)), (.ref b100)])) rfl rfl (hb hby at_521) _ ?_
                                              show Steps p.tables e below (T142.setTop (mkF m 522 #[.val (.int x0), .val (.int x1), .val (.int x2), .val (.long x3), .second, .val (.int x4), .val (.int x5), .val (.int f0), .val (.int f1), .val (.int f2), .val (.int f3), .val (.int f4), .val (.int (x4 &&& (3 : Int32))), .val (.ref pp), .val (.int sz), .val (.ref b60), .val (.ref b100), .val (.int z5), .val (.int ps), .val (.int (0 : Int32)), .unset, .unset] [(.int (D5.getD 0 0))])) _
                                              refine XS.istore X142.here hx rfl (hb hby at_522) rfl (l' := #[.val (.int x0), .val (.int x1), .val (.int x2), .val (.long x3), .second, .val (.int x4), .val (.int x5), .val (.int f0), .val (.int f1), .val (.int f2), .val (.int f3), .val (.int f4), .val (.int (x4 &&& (3 : Int32))), .val (.ref pp), .val (.int sz), .val (.ref b60), .val (.ref b100), .val (.int z5), .val (.int ps), .val (.int (D5.getD 0 0)), .unset, .unset]) rfl ?_
                                              show Steps p.tables e below (T142.setTop (mkF m 524 #[.val (.int x0), .val (.int x1), .val (.int x2), .val (.long x3), .second, .val (.int x4), .val (.int x5), .val (.int f0), .val (.int f1), .val (.int f2), .val (.int f3), .val (.int f4), .val (.int (x4 &&& (3 : Int32))), .val (.ref pp), .val (.int sz), .val (.ref b60), .val (.ref b100), .val (.int z5), .val (.int ps), .val (.int (D5.getD 0 0)), .unset, .unset] [])) _
                                              refine XS.aload X142.here hx rfl (hb hby at_524) rfl rfl ?_
                                              show Steps p.tables e below (T142.setTop (mkF m 526 #[.val (.int x0), .val (.int x1), .val (.int x2), .val (.long x3), .second, .val (.int x4), .val (.int x5), .val (.int f0), .val (.int f1), .val (.int f2), .val (.int f3), .val (.int f4), .val (.int (x4 &&& (3 : Int32))), .val (.ref pp), .val (.int sz), .val (.ref b60), .val (.ref b100), .val (.int z5), .val (.int ps), .val (.int (D5.getD 0 0)), .unset, .unset] [(.ref b100)])) _
                                              refine XS.iconst X142.here hx rfl (hb hby at_526) ?_
                                              show Steps p.tables e below (T142.setTop (mkF m 527 #[.val (.int x0), .val (.int x1), .val (.int x2), .val (.long x3), .second, .val (.int x4), .val (.int x5), .val (.int f0), .val (.int f1), .val (.int f2), .val (.int f3), .val (.int f4), .val (.int (x4 &&& (3 : Int32))), .val (.ref pp), .val (.int sz), .val (.ref b60), .val (.ref b100), .val (.int z5), .val (.int ps), .val (.int (D5.getD 0 0)), .unset, .unset] [(.int (0 : Int32)), (.ref b100)])) _
                                              refine XS.iload X142.here hx rfl (hb hby at_527) rfl ?_
                                              show Steps p.tables e below (T142.setTop (mkF m 529 #[.val (.int x0), .val (.int x1), .val (.int x2), .val (.long x3), .second, .val (.int x4), .val (.int x5), .val (.int f0), .val (.int f1), .val (.int f2), .val (.int f3), .val (.int f4), .val (.int (x4 &&& (3 : Int32))), .val (.ref pp), .val (.int sz), .val (.ref b60), .val (.ref b100), .val (.int z5), .val (.int ps), .val (.int (D5.getD 0 0)), .unset, .unset] [(.int (D5.getD 0 0)), (.int (0 : Int32)), (.ref b100)])) _
                                              refine XS.iconst X142.here hx rfl (hb hby at_529) ?_
                                              show Steps p.tables e below (T142.setTop (mkF m 530 #[.val (.int x0), .val (.int x1), .val (.int x2), .val (.long x3), .second, .val (.int x4), .val (.int x5), .val (.int f0), .val (.int f1), .val (.int f2), .val (.int f3), .val (.int f4), .val (.int (x4 &&& (3 : Int32))), .val (.ref pp), .val (.int sz), .val (.ref b60), .val (.ref b100), .val (.int z5), .val (.int ps), .val (.int (D5.getD 0 0)), .unset, .unset] [(.int (1 : Int32)), (.int (D5.getD 0 0)), (.int (0 : Int32)), (.ref b100)])) _
                                              refine XS.ixor X142.here hx rfl (hb hby at_530) rfl ?_
                                              show Steps p.tables e below (T142.setTop (mkF m 531 #[.val (.int x0), .val (.int x1), .val (.int x2), .val (.long x3), .second, .val (.int x4), .val (.int x5), .val (.int f0), .val (.int f1), .val (.int f2), .val (.int f3), .val (.int f4), .val (.int (x4 &&& (3 : Int32))), .val (.ref pp), .val (.int sz), .val (.ref b60), .val (.ref b100), .val (.int z5), .val (.int ps), .val (.int (D5.getD 0 0)), .unset, .unset] [(.int ((D5.getD 0 0) ^^^ (1 : Int32))), (.int (0 : Int32)), (.ref b100)])) _
                                              refine XS.i2b X142.here hx rfl (hb hby at_531) rfl ?_
                                              show Steps p.tables e below (T142.setTop (mkF m 532 #[.val (.int x0), .val (.int x1), .val (.int x2), .val (.long x3), .second, .val (.int x4), .val (.int x5), .val (.int f0), .val (.int f1), .val (.int f2), .val (.int f3), .val (.int f4), .val (.int (x4 &&& (3 : Int32))), .val (.ref pp), .val (.int sz), .val (.ref b60), .val (.ref b100), .val (.int z5), .val (.int ps), .val (.int (D5.getD 0 0)), .unset, .unset] [(.int (((D5.getD 0 0) ^^^ (1 : Int32)).toInt8.toInt32)), (.int (0 : Int32)), (.ref b100)])) _
                                              refine st184 _ ?_
                                              show Steps p.tables e below (T184.setTop (mkF m 533 #[.val (.int x0), .val (.int x1), .val (.int x2), .val (.long x3), .second, .val (.int x4), .val (.int x5), .val (.int f0), .val (.int f1), .val (.int f2), .val (.int f3), .val (.int f4), .val (.int (x4 &&& (3 : Int32))), .val (.ref pp), .val (.int sz), .val (.ref b60), .val (.ref b100), .val (.int z5), .val (.int ps), .val (.int (D5.getD 0 0)), .unset, .unset] [])) _
                                              refine XS.aload X184.here hx rfl (hb hby at_533) rfl rfl ?_
                                              show Steps p.tables e below (T184.setTop (mkF m 535 #[.val (.int x0), .val (.int x1), .val (.int x2), .val (.long x3), .second, .val (.int x4), .val (.int x5), .val (.int f0), .val (.int f1), .val (.int f2), .val (.int f3), .val (.int f4), .val (.int (x4 &&& (3 : Int32))), .val (.ref pp), .val (.int sz), .val (.ref b60), .val (.ref b100), .val (.int z5), .val (.int ps), .val (.int (D5.getD 0 0)), .unset, .unset] [(.ref b60)])) _
                                              refine st186.trans ?_
                                              show Steps p.tables e below (T186.setTop (mkF m 538 #[.val (.int x0), .val (.int x1), .val (.int x2), .val (.long x3), .second, .val (.int x4), .val (.int x5), .val (.int f0), .val (.int f1), .val (.int f2), .val (.int f3), .val (.int f4), .val (.int (x4 &&& (3 : Int32))), .val (.ref pp), .val (.int sz), .val (.ref b60), .val (.ref b100), .val (.int z5), .val (.int ps), .val (.int (D5.getD 0 0)), .unset, .unset] [(.ref b186)])) _
                                              refine XS.astore X186.here hx rfl (hb hby at_538) rfl rfl (l' := #[.val (.int x0), .val (.int x1), .val (.int x2), .val (.long x3), .second, .val (.int x4), .val (.int x5), .val (.int f0), .val (.int f1), .val (.int f2), .val (.int f3), .val (.int f4), .val (.int (x4 &&& (3 : Int32))), .val (.ref pp), .val (.int sz), .val (.ref b60), .val (.ref b100), .val (.int z5), .val (.int ps), .val (.int (D5.getD 0 0)), .val (.ref b186), .unset]) rfl ?_
                                              show Steps p.tables e below (T186.setTop (mkF m 540 #[.val (.int x0), .val (.int x1), .val (.int x2), .val (.long x3), .second, .val (.int x4), .val (.int x5), .val (.int f0), .val (.int f1), .val (.int f2), .val (.int f3), .val (.int f4), .val (.int (x4 &&& (3 : Int32))), .val (.ref pp), .val (.int sz), .val (.ref b60), .val (.ref b100), .val (.int z5), .val (.int ps), .val (.int (D5.getD 0 0)), .val (.ref b186), .unset] [])) _
                                              refine XS.aload X186.here hx rfl (hb hby at_540) rfl rfl ?_
                                              show Steps p.tables e below (T186.setTop (mkF m 542 #[.val (.int x0), .val (.int x1), .val (.int x2), .val (.long x3), .second, .val (.int x4), .val (.int x5), .val (.int f0), .val (.int f1), .val (.int f2), .val (.int f3), .val (.int f4), .val (.int (x4 &&& (3 : Int32))), .val (.ref pp), .val (.int sz), .val (.ref b60), .val (.ref b100), .val (.int z5), .val (.int ps), .val (.int (D5.getD 0 0)), .val (.ref b186), .unset] [(.ref b186)])) _
                                              refine X186.arraylength hx Ar188.1 (State.isArrayOf_alike hZ.alike Ar188.2.1) (g := (mkF m 542 #[.val (.int x0), .val (.int x1), .val (.int x2), .val (.long x3), .second, .val (.int x4), .val (.int x5), .val (.int f0), .val (.int f1), .val (.int f2), .val (.int f3), .val (.int f4), .val (.int (x4 &&& (3 : Int32))), .val (.ref pp), .val (.int sz), .val (.ref b60), .val (.ref b100), .val (.int z5), .val (.int ps), .val (.int (D5.getD 0 0)), .val (.ref b186), .unset] [(.ref b186)])) rfl rfl (hb hby at_542) _ ?_
                                              rw [len_of S188 M188]
                                              show Steps p.tables e below (T186.setTop (mkF m 543 #[.val (.int x0), .val (.int x1), .val (.int x2), .val (.long x3), .second, .val (.int x4), .val (.int x5), .val (.int f0), .val (.int f1), .val (.int f2), .val (.int f3), .val (.int f4), .val (.int (x4 &&& (3 : Int32))), .val (.ref pp), .val (.int sz), .val (.ref b60), .val (.ref b100), .val (.int z5), .val (.int ps), .val (.int (D5.getD 0 0)), .val (.ref b186), .unset] [(.int z5)])) _
                                              refine XS.iload X186.here hx rfl (hb hby at_543) rfl ?_
                                              show Steps p.tables e below (T186.setTop (mkF m 545 #[.val (.int x0), .val (.int x1), .val (.int x2), .val (.long x3), .second, .val (.int x4), .val (.int x5), .val (.int f0), .val (.int f1), .val (.int f2), .val (.int f3), .val (.int f4), .val (.int (x4 &&& (3 : Int32))), .val (.ref pp), .val (.int sz), .val (.ref b60), .val (.ref b100), .val (.int z5), .val (.int ps), .val (.int (D5.getD 0 0)), .val (.ref b186), .unset] [(.int z5), (.int z5)])) _
                                              refine XS.icmpNo X186.here hx rfl (hb hby at_545) rfl (teq (rfl : z5 = z5)).2 ?_
                                              show Steps p.tables e below (T186.setTop (mkF m 548 #[.val (.int x0), .val (.int x1), .val (.int x2), .val (.long x3), .second, .val (.int x4), .val (.int x5), .val (.int f0), .val (.int f1), .val (.int f2), .val (.int f3), .val (.int f4), .val (.int (x4 &&& (3 : Int32))), .val (.ref pp), .val (.int sz), .val (.ref b60), .val (.ref b100), .val (.int z5), .val (.int ps), .val (.int (D5.getD 0 0)), .val (.ref b186), .unset] [])) _
                                              refine XS.aload X186.here hx rfl (hb hby at_548) rfl rfl ?_
                                              show Steps p.tables e below (T186.setTop (mkF m 550 #[.val (.int x0), .val (.int x1), .val (.int x2), .val (.long x3), .second, .val (.int x4), .val (.int x5), .val (.int f0), .val (.int f1), .val (.int f2), .val (.int f3), .val (.int f4), .val (.int (x4 &&& (3 : Int32))), .val (.ref pp), .val (.int sz), .val (.ref b60), .val (.ref b100), .val (.int z5), .val (.int ps), .val (.int (D5.getD 0 0)), .val (.ref b186), .unset] [(.ref b186)])) _
                                              refine XS.iconst X186.here hx rfl (hb hby at_550) ?_
                                              show Steps p.tables e below (T186.setTop (mkF m 551 #[.val (.int x0), .val (.int x1), .val (.int x2), .val (.long x3), .second, .val (.int x4), .val (.int x5), .val (.int f0), .val (.int f1), .val (.int f2), .val (.int f3), .val (.int f4), .val (.int (x4 &&& (3 : Int32))), .val (.ref pp), .val (.int sz), .val (.ref b60), .val (.ref b100), .val (.int z5), .val (.int ps), .val (.int (D5.getD 0 0)), .val (.ref b186), .unset] [(.int (0 : Int32)), (.ref b186)])) _
                                              refine X186.baloadBytes hx (j := (0 : Int32)) (v := (.int (D5.getD 0 0))) Ar189.1 (State.isArrayOf_alike hZ.alike Ar189.2.1) Ar189.2.2 hin189 (H189.at hin189 hr189.2) (g := (mkF m 551 #[.val (.int x0), .val (.int x1), .val (.int x2), .val (.long x3), .second, .val (.int x4), .val (.int x5), .val (.int f0), .val (.int f1), .val (.int f2), .val (.int f3), .val (.int f4), .val (.int (x4 &&& (3 : Int32))), .val (.ref pp), .val (.int sz), .val (.ref b60), .val (.ref b100), .val (.int z5), .val (.int ps), .val (.int (D5.getD 0 0)), .val (.ref b186), .unset] [(.int (0 : Int32)), (.ref b186)])) rfl rfl (hb hby at_551) _ ?_
                                              show Steps p.tables e below (T186.setTop (mkF m 552 #[.val (.int x0), .val (.int x1), .val (.int x2), .val (.long x3), .second, .val (.int x4), .val (.int x5), .val (.int f0), .val (.int f1), .val (.int f2), .val (.int f3), .val (.int f4), .val (.int (x4 &&& (3 : Int32))), .val (.ref pp), .val (.int sz), .val (.ref b60), .val (.ref b100), .val (.int z5), .val (.int ps), .val (.int (D5.getD 0 0)), .val (.ref b186), .unset] [(.int (D5.getD 0 0))])) _
                                              refine XS.iload X186.here hx rfl (hb hby at_552) rfl ?_
                                              show Steps p.tables e below (T186.setTop (mkF m 554 #[.val (.int x0), .val (.int x1), .val (.int x2), .val (.long x3), .second, .val (.int x4), .val (.int x5), .val (.int f0), .val (.int f1), .val (.int f2), .val (.int f3), .val (.int f4), .val (.int (x4 &&& (3 : Int32))), .val (.ref pp), .val (.int sz), .val (.ref b60), .val (.ref b100), .val (.int z5), .val (.int ps), .val (.int (D5.getD 0 0)), .val (.ref b186), .unset] [(.int (D5.getD 0 0)), (.int (D5.getD 0 0))])) _
                                              refine XS.icmpYes X186.here hx rfl (pc0 := 554) (pc' := 559) rfl (hb hby at_554) rfl (teq (rfl : (D5.getD 0 0) = (D5.getD 0 0))).1 (by decide) (by decide) ?_
                                              show Steps p.tables e below (T186.setTop (mkF m 559 #[.val (.int x0), .val (.int x1), .val (.int x2), .val (.long x3), .second, .val (.int x4), .val (.int x5), .val (.int f0), .val (.int f1), .val (.int f2), .val (.int f3), .val (.int f4), .val (.int (x4 &&& (3 : Int32))), .val (.ref pp), .val (.int sz), .val (.ref b60), .val (.ref b100), .val (.int z5), .val (.int ps), .val (.int (D5.getD 0 0)), .val (.ref b186), .unset] [])) _
                                              refine XS.iload X186.here hx rfl (hb hby at_559) rfl ?_
                                              show Steps p.tables e below (T186.setTop (mkF m 561 #[.val (.int x0), .val (.int x1), .val (.int x2), .val (.long x3), .second, .val (.int x4), .val (.int x5), .val (.int f0), .val (.int f1), .val (.int f2), .val (.int f3), .val (.int f4), .val (.int (x4 &&& (3 : Int32))), .val (.ref pp), .val (.int sz), .val (.ref b60), .val (.ref b100), .val (.int z5), .val (.int ps), .val (.int (D5.getD 0 0)), .val (.ref b186), .unset] [(.int x4)])) _
                                              refine XS.iconst X186.here hx rfl (hb hby at_561) ?_
                                              show Steps p.tables e below (T186.setTop (mkF m 562 #[.val (.int x0), .val (.int x1), .val (.int x2), .val (.long x3), .second, .val (.int x4), .val (.int x5), .val (.int f0), .val (.int f1), .val (.int f2), .val (.int f3), .val (.int f4), .val (.int (x4 &&& (3 : Int32))), .val (.ref pp), .val (.int sz), .val (.ref b60), .val (.ref b100), .val (.int z5), .val (.int ps), .val (.int (D5.getD 0 0)), .val (.ref b186), .unset] [(.int (2 : Int32)), (.int x4)])) _
                                              refine XS.iushr X186.here hx rfl (hb hby at_562) rfl ?_
                                              show Steps p.tables e below (T186.setTop (mkF m 563 #[.val (.int x0), .val (.int x1), .val (.int x2), .val (.long x3), .second, .val (.int x4), .val (.int x5), .val (.int f0), .val (.int f1), .val (.int f2), .val (.int f3), .val (.int f4), .val (.int (x4 &&& (3 : Int32))), .val (.ref pp), .val (.int sz), .val (.ref b60), .val (.ref b100), .val (.int z5), .val (.int ps), .val (.int (D5.getD 0 0)), .val (.ref b186), .unset] [(.int ((x4.toUInt32 >>> ((2 : Int32) &&& 31).toUInt32).toInt32))])) _
                                              refine XS.istore X186.here hx rfl (hb hby at_563) rfl (l' := #[.val (.int x0), .val (.int x1), .val (.int x2), .val (.long x3), .second, .val (.int x4), .val (.int x5), .val (.int f0), .val (.int f1), .val (.int f2), .val (.int f3), .val (.int f4), .val (.int (x4 &&& (3 : Int32))), .val (.ref pp), .val (.int sz), .val (.ref b60), .val (.ref b100), .val (.int z5), .val (.int ps), .val (.int (D5.getD 0 0)), .val (.int ((x4.toUInt32 >>> ((2 : Int32) &&& 31).toUInt32).toInt32)), .unset]) rfl ?_
                                              show Steps p.tables e below (T186.setTop (mkF m 565 #[.val (.int x0), .val (.int x1), .val (.int x2), .val (.long x3), .second, .val (.int x4), .val (.int x5), .val (.int f0), .val (.int f1), .val (.int f2), .val (.int f3), .val (.int f4), .val (.int (x4 &&& (3 : Int32))), .val (.ref pp), .val (.int sz), .val (.ref b60), .val (.ref b100), .val (.int z5), .val (.int ps), .val (.int (D5.getD 0 0)), .val (.int ((x4.toUInt32 >>> ((2 : Int32) &&& 31).toUInt32).toInt32)), .unset] [])) _
                                              refine XS.aload X186.here hx rfl (hb hby at_565) rfl rfl ?_
                                              show Steps p.tables e below (T186.setTop (mkF m 567 #[.val (.int x0), .val (.int x1), .val (.int x2), .val (.long x3), .second, .val (.int x4), .val (.int x5), .val (.int f0), .val (.int f1), .val (.int f2), .val (.int f3), .val (.int f4), .val (.int (x4 &&& (3 : Int32))), .val (.ref pp), .val (.int sz), .val (.ref b60), .val (.ref b100), .val (.int z5), .val (.int ps), .val (.int (D5.getD 0 0)), .val (.int ((x4.toUInt32 >>> ((2 : Int32) &&& 31).toUInt32).toInt32)), .unset] [(.ref b60)])) _
                                              refine XS.iload X186.here hx rfl (hb hby at_567) rfl ?_
                                              show Steps p.tables e below (T186.setTop (mkF m 569 #[.val (.int x0), .val (.int x1), .val (.int x2), .val (.long x3), .second, .val (.int x4), .val (.int x5), .val (.int f0), .val (.int f1), .val (.int f2), .val (.int f3), .val (.int f4), .val (.int (x4 &&& (3 : Int32))), .val (.ref pp), .val (.int sz), .val (.ref b60), .val (.ref b100), .val (.int z5), .val (.int ps), .val (.int (D5.getD 0 0)), .val (.int ((x4.toUInt32 >>> ((2 : Int32) &&& 31).toUInt32).toInt32)), .unset] [(.int ((x4.toUInt32 >>> ((2 : Int32) &&& 31).toUInt32).toInt32)), (.ref b60)])) _
                                              refine st190.trans ?_
                                              show Steps p.tables e below (T190.setTop (mkF m 572 #[.val (.int x0), .val (.int x1), .val (.int x2), .val (.long x3), .second, .val (.int x4), .val (.int x5), .val (.int f0), .val (.int f1), .val (.int f2), .val (.int f3), .val (.int f4), .val (.int (x4 &&& (3 : Int32))), .val (.ref pp), .val (.int sz), .val (.ref b60), .val (.ref b100), .val (.int z5), .val (.int ps), .val (.int (D5.getD 0 0)), .val (.int ((x4.toUInt32 >>> ((2 : Int32) &&& 31).toUInt32).toInt32)), .unset] [])) _
                                              refine XS.aload X190.here hx rfl (hb hby at_572) rfl rfl ?_
                                              show Steps p.tables e below (T190.setTop (mkF m 574 #[.val (.int x0), .val (.int x1), .val (.int x2), .val (.long x3), .second, .val (.int x4), .val (.int x5), .val (.int f0), .val (.int f1), .val (.int f2), .val (.int f3), .val (.int f4), .val (.int (x4 &&& (3 : Int32))), .val (.ref pp), .val (.int sz), .val (.ref b60), .val (.ref b100), .val (.int z5), .val (.int ps), .val (.int (D5.getD 0 0)), .val (.int ((x4.toUInt32 >>> ((2 : Int32) &&& 31).toUInt32).toInt32)), .unset] [(.ref b60)])) _
                                              refine st192.trans ?_
                                              show Steps p.tables e below (T192.setTop (mkF m 577 #[.val (.int x0), .val (.int x1), .val (.int x2), .val (.long x3), .second, .val (.int x4), .val (.int x5), .val (.int f0), .val (.int f1), .val (.int f2), .val (.int f3), .val (.int f4), .val (.int (x4 &&& (3 : Int32))), .val (.ref pp), .val (.int sz), .val (.ref b60), .val (.ref b100), .val (.int z5), .val (.int ps), .val (.int (D5.getD 0 0)), .val (.int ((x4.toUInt32 >>> ((2 : Int32) &&& 31).toUInt32).toInt32)), .unset] [(.ref b192)])) _
                                              refine XS.astore X192.here hx rfl (hb hby at_577) rfl rfl (l' := #[.val (.int x0), .val (.int x1), .val (.int x2), .val (.long x3), .second, .val (.int x4), .val (.int x5), .val (.int f0), .val (.int f1), .val (.int f2), .val (.int f3), .val (.int f4), .val (.int (x4 &&& (3 : Int32))), .val (.ref pp), .val (.int sz), .val (.ref b60), .val (.ref b100), .val (.int z5), .val (.int ps), .val (.int (D5.getD 0 0)), .val (.int ((x4.toUInt32 >>> ((2 : Int32) &&& 31).toUInt32).toInt32)), .val (.ref b192)]) rfl ?_
                                              show Steps p.tables e below (T192.setTop (mkF m 579 #[.val (.int x0), .val (.int x1), .val (.int x2), .val (.long x3), .second, .val (.int x4), .val (.int x5), .val (.int f0), .val (.int f1), .val (.int f2), .val (.int f3), .val (.int f4), .val (.int (x4 &&& (3 : Int32))), .val (.ref pp), .val (.int sz), .val (.ref b60), .val (.ref b100), .val (.int z5), .val (.int ps), .val (.int (D5.getD 0 0)), .val (.int ((x4.toUInt32 >>> ((2 : Int32) &&& 31).toUInt32).toInt32)), .val (.ref b192)] [])) _
                                              refine XS.aload X192.here hx rfl (hb hby at_579) rfl rfl ?_
                                              show Steps p.tables e below (T192.setTop (mkF m 581 #[.val (.int x0), .val (.int x1), .val (.int x2), .val (.long x3), .second, .val (.int x4), .val (.int x5), .val (.int f0), .val (.int f1), .val (.int f2), .val (.int f3), .val (.int f4), .val (.int (x4 &&& (3 : Int32))), .val (.ref pp), .val (.int sz), .val (.ref b60), .val (.ref b100), .val (.int z5), .val (.int ps), .val (.int (D5.getD 0 0)), .val (.int ((x4.toUInt32 >>> ((2 : Int32) &&& 31).toUInt32).toInt32)), .val (.ref b192)] [(.ref b192)])) _
                                              refine X192.arraylength hx Ar194.1 (State.isArrayOf_alike hZ.alike Ar194.2.1) (g := (mkF m 581 #[.val (.int x0), .val (.int x1), .val (.int x2), .val (.long x3), .second, .val (.int x4), .val (.int x5), .val (.int f0), .val (.int f1), .val (.int f2), .val (.int f3), .val (.int f4), .val (.int (x4 &&& (3 : Int32))), .val (.ref pp), .val (.int sz), .val (.ref b60), .val (.ref b100), .val (.int z5), .val (.int ps), .val (.int (D5.getD 0 0)), .val (.int ((x4.toUInt32 >>> ((2 : Int32) &&& 31).toUInt32).toInt32)), .val (.ref b192)] [(.ref b192)])) rfl rfl (hb hby at_581) _ ?_
                                              rw [len_of S194 M194]
                                              show Steps p.tables e below (T192.setTop (mkF m 582 #[.val (.int x0), .val (.int x1), .val (.int x2), .val (.long x3), .second, .val (.int x4), .val (.int x5), .val (.int f0), .val (.int f1), .val (.int f2), .val (.int f3), .val (.int f4), .val (.int (x4 &&& (3 : Int32))), .val (.ref pp), .val (.int sz), .val (.ref b60), .val (.ref b100), .val (.int z5), .val (.int ps), .val (.int (D5.getD 0 0)), .val (.int ((x4.toUInt32 >>> ((2 : Int32) &&& 31).toUInt32).toInt32)), .val (.ref b192)] [(.int (z5 + (1 : Int32)))])) _
                                              refine XS.iload X192.here hx rfl (hb hby at_582) rfl ?_
                                              show Steps p.tables e below (T192.setTop (mkF m 584 #[.val (.int x0), .val (.int x1), .val (.int x2), .val (.long x3), .second, .val (.int x4), .val (.int x5), .val (.int f0), .val (.int f1), .val (.int f2), .val (.int f3), .val (.int f4), .val (.int (x4 &&& (3 : Int32))), .val (.ref pp), .val (.int sz), .val (.ref b60), .val (.ref b100), .val (.int z5), .val (.int ps), .val (.int (D5.getD 0 0)), .val (.int ((x4.toUInt32 >>> ((2 : Int32) &&& 31).toUInt32).toInt32)), .val (.ref b192)] [(.int z5), (.int (z5 + (1 : Int32)))])) _
                                              refine XS.iconst X192.here hx rfl (hb hby at_584) ?_
                                              show Steps p.tables e below (T192.setTop (mkF m 585 #[.val (.int x0), .val (.int x1), .val (.int x2), .val (.long x3), .second, .val (.int x4), .val (.int x5), .val (.int f0), .val (.int f1), .val (.int f2), .val (.int f3), .val (.int f4), .val (.int (x4 &&& (3 : Int32))), .val (.ref pp), .val (.int sz), .val (.ref b60), .val (.ref b100), .val (.int z5), .val (.int ps), .val (.int (D5.getD 0 0)), .val (.int ((x4.toUInt32 >>> ((2 : Int32) &&& 31).toUInt32).toInt32)), .val (.ref b192)] [(.int (1 : Int32)), (.int z5), (.int (z5 + (1 : Int32)))])) _
                                              refine XS.iadd X192.here hx rfl (hb hby at_585) rfl ?_
                                              show Steps p.tables e below (T192.setTop (mkF m 586 #[.val (.int x0), .val (.int x1), .val (.int x2), .val (.long x3), .second, .val (.int x4), .val (.int x5), .val (.int f0), .val (.int f1), .val (.int f2), .val (.int f3), .val (.int f4), .val (.int (x4 &&& (3 : Int32))), .val (.ref pp), .val (.int sz), .val (.ref b60), .val (.ref b100), .val (.int z5), .val (.int ps), .val (.int (D5.getD 0 0)), .val (.int ((x4.toUInt32 >>> ((2 : Int32) &&& 31).toUInt32).toInt32)), .val (.ref b192)] [(.int (z5 + (1 : Int32))), (.int (z5 + (1 : Int32)))])) _
                                              refine XS.icmpNo X192.here hx rfl (hb hby at_586) rfl (teq (rfl : (z5 + (1 : Int32)) = (z5 + (1 : Int32)))).2 ?_
                                              show Steps p.tables e below (T192.setTop (mkF m 589 #[.val (.int x0), .val (.int x1), .val (.int x2), .val (.long x3), .second, .val (.int x4), .val (.int x5), .val (.int f0), .val (.int f1), .val (.int f2), .val (.int f3), .val (.int f4), .val (.int (x4 &&& (3 : Int32))), .val (.ref pp), .val (.int sz), .val (.ref b60), .val (.ref b100), .val (.int z5), .val (.int ps), .val (.int (D5.getD 0 0)), .val (.int ((x4.toUInt32 >>> ((2 : Int32) &&& 31).toUInt32).toInt32)), .val (.ref b192)] [])) _
                                              refine XS.aload X192.here hx rfl (hb hby at_589) rfl rfl ?_
                                              show Steps p.tables e below (T192.setTop (mkF m 591 #[.val (.int x0), .val (.int x1), .val (.int x2), .val (.long x3), .second, .val (.int x4), .val (.int x5), .val (.int f0), .val (.int f1), .val (.int f2), .val (.int f3), .val (.int f4), .val (.int (x4 &&& (3 : Int32))), .val (.ref pp), .val (.int sz), .val (.ref b60), .val (.ref b100), .val (.int z5), .val (.int ps), .val (.int (D5.getD 0 0)), .val (.int ((x4.toUInt32 >>> ((2 : Int32) &&& 31).toUInt32).toInt32)), .val (.ref b192)] [(.ref b192)])) _
                                              refine XS.iload X192.here hx rfl (hb hby at_591) rfl ?_
                                              show Steps p.tables e below (T192.setTop (mkF m 593 #[.val (.int x0), .val (.int x1), .val (.int x2), .val (.long x3), .second, .val (.int x4), .val (.int x5), .val (.int f0), .val (.int f1), .val (.int f2), .val (.int f3), .val (.int f4), .val (.int (x4 &&& (3 : Int32))), .val (.ref pp), .val (.int sz), .val (.ref b60), .val (.ref b100), .val (.int z5), .val (.int ps), .val (.int (D5.getD 0 0)), .val (.int ((x4.toUInt32 >>> ((2 : Int32) &&& 31).toUInt32).toInt32)), .val (.ref b192)] [(.int z5), (.ref b192)])) _
                                              refine X192.baloadBytes hx (j := z5) (v := (.int (((x4.toUInt32 >>> ((2 : Int32) &&& 31).toUInt32).toInt32).toInt8.toInt32))) Ar195.1 (State.isArrayOf_alike hZ.alike Ar195.2.1) Ar195.2.2 hin195 (H195.at hin195 hr195.2) (g := (mkF m 593 #[.val (.int x0), .val (.int x1), .val (.int x2), .val (.long x3), .second, .val (.int x4), .val (.int x5), .val (.int f0), .val (.int f1), .val (.int f2), .val (.int f3), .val (.int f4), .val (.int (x4 &&& (3 : Int32))), .val (.ref pp), .val (.int sz), .val (.ref b60), .val (.ref b100), .val (.int z5), .val (.int ps), .val (.int (D5.getD 0 0)), .val (.int ((x4.toUInt32 >>> ((2 : Int32) &&& 31).toUInt32).toInt32)), .val (.ref b192)] [(.int z5), (.ref b192)])) rfl rfl (hb hby at_593) _ ?_
                                              show Steps p.tables e below (T192.setTop (mkF m 594 #[.val (.int x0), .val (.int x1), .val (.int x2), .val (.long x3), .second, .val (.int x4), .val (.int x5), .val (.int f0), .val (.int f1), .val (.int f2), .val (.int f3), .val (.int f4), .val (.int (x4 &&& (3 : Int32))), .val (.ref pp), .val (.int sz), .val (.ref b60), .val (.ref b100), .val (.int z5), .val (.int ps), .val (.int (D5.getD 0 0)), .val (.int ((x4.toUInt32 >>> ((2 : Int32) &&& 31).toUInt32).toInt32)), .val (.ref b192)] [(.int (((x4.toUInt32 >>> ((2 : Int32) &&& 31).toUInt32).toInt32).toInt8.toInt32))])) _
                                              refine XS.iload X192.here hx rfl (hb hby at_594) rfl ?_
                                              show Steps p.tables e below (T192.setTop (mkF m 596 #[.val (.int x0), .val (.int x1), .val (.int x2), .val (.long x3), .second, .val (.int x4), .val (.int x5), .val (.int f0), .val (.int f1), .val (.int f2), .val (.int f3), .val (.int f4), .val (.int (x4 &&& (3 : Int32))), .val (.ref pp), .val (.int sz), .val (.ref b60), .val (.ref b100), .val (.int z5), .val (.int ps), .val (.int (D5.getD 0 0)), .val (.int ((x4.toUInt32 >>> ((2 : Int32) &&& 31).toUInt32).toInt32)), .val (.ref b192)] [(.int ((x4.toUInt32 >>> ((2 : Int32) &&& 31).toUInt32).toInt32)), (.int (((x4.toUInt32 >>> ((2 : Int32) &&& 31).toUInt32).toInt32).toInt8.toInt32))])) _
                                              refine XS.i2b X192.here hx rfl (hb hby at_596) rfl ?_
                                              show Steps p.tables e below (T192.setTop (mkF m 597 #[.val (.int x0), .val (.int x1), .val (.int x2), .val (.long x3), .second, .val (.int x4), .val (.int x5), .val (.int f0), .val (.int f1), .val (.int f2), .val (.int f3), .val (.int f4), .val (.int (x4 &&& (3 : Int32))), .val (.ref pp), .val (.int sz), .val (.ref b60), .val (.ref b100), .val (.int z5), .val (.int ps), .val (.int (D5.getD 0 0)), .val (.int ((x4.toUInt32 >>> ((2 : Int32) &&& 31).toUInt32).toInt32)), .val (.ref b192)] [(.int (((x4.toUInt32 >>> ((2 : Int32) &&& 31).toUInt32).toInt32).toInt8.toInt32)), (.int (((x4.toUInt32 >>> ((2 : Int32) &&& 31).toUInt32).toInt32).toInt8.toInt32))])) _
                                              refine XS.icmpYes X192.here hx rfl (pc0 := 597) (pc' := 602) rfl (hb hby at_597) rfl (teq (rfl : (((x4.toUInt32 >>> ((2 : Int32) &&& 31).toUInt32).toInt32).toInt8.toInt32) = (((x4.toUInt32 >>> ((2 : Int32) &&& 31).toUInt32).toInt32).toInt8.toInt32))).1 (by decide) (by decide) ?_
                                              show Steps p.tables e below (T192.setTop (mkF m 602 #[.val (.int x0), .val (.int x1), .val (.int x2), .val (.long x3), .second, .val (.int x4), .val (.int x5), .val (.int f0), .val (.int f1), .val (.int f2), .val (.int f3), .val (.int f4), .val (.int (x4 &&& (3 : Int32))), .val (.ref pp), .val (.int sz), .val (.ref b60), .val (.ref b100), .val (.int z5), .val (.int ps), .val (.int (D5.getD 0 0)), .val (.int ((x4.toUInt32 >>> ((2 : Int32) &&& 31).toUInt32).toInt32)), .val (.ref b192)] [])) _
                                              refine XS.iload X192.here hx rfl (hb hby at_602) rfl ?_
                                              show Steps p.tables e below (T192.setTop (mkF m 604 #[.val (.int x0), .val (.int x1), .val (.int x2), .val (.long x3), .second, .val (.int x4), .val (.int x5), .val (.int f0), .val (.int f1), .val (.int f2), .val (.int f3), .val (.int f4), .val (.int (x4 &&& (3 : Int32))), .val (.ref pp), .val (.int sz), .val (.ref b60), .val (.ref b100), .val (.int z5), .val (.int ps), .val (.int (D5.getD 0 0)), .val (.int ((x4.toUInt32 >>> ((2 : Int32) &&& 31).toUInt32).toInt32)), .val (.ref b192)] [(.int z5)])) _
                                              refine XS.ifNo X192.here hx rfl (hb hby at_604) rfl ((if0 _ _).trans (tlt hc181).2.2.2) ?_
                                              show Steps p.tables e below (T192.setTop (mkF m 607 #[.val (.int x0), .val (.int x1), .val (.int x2), .val (.long x3), .second, .val (.int x4), .val (.int x5), .val (.int f0), .val (.int f1), .val (.int f2), .val (.int f3), .val (.int f4), .val (.int (x4 &&& (3 : Int32))), .val (.ref pp), .val (.int sz), .val (.ref b60), .val (.ref b100), .val (.int z5), .val (.int ps), .val (.int (D5.getD 0 0)), .val (.int ((x4.toUInt32 >>> ((2 : Int32) &&& 31).toUInt32).toInt32)), .val (.ref b192)] [])) _
                                              refine XS.aload X192.here hx rfl (hb hby at_607) rfl rfl ?_
                                              show Steps p.tables e below (T192.setTop (mkF m 609 #[.val (.int x0), .val (.int x1), .val (.int x2), .val (.long x3), .second, .val (.int x4), .val (.int x5), .val (.int f0), .val (.int f1), .val (.int f2), .val (.int f3), .val (.int f4), .val (.int (x4 &&& (3 : Int32))), .val (.ref pp), .val (.int sz), .val (.ref b60), .val (.ref b100), .val (.int z5), .val (.int ps), .val (.int (D5.getD 0 0)), .val (.int ((x4.toUInt32 >>> ((2 : Int32) &&& 31).toUInt32).toInt32)), .val (.ref b192)] [(.ref b192)])) _
                                              refine XS.iconst X192.here hx rfl (hb hby at_609) ?_
                                              show Steps p.tables e below (T192.setTop (mkF m 610 #[.val (.int x0), .val (.int x1), .val (.int x2), .val (.long x3), .second, .val (.int x4), .val (.int x5), .val (.int f0), .val (.int f1), .val (.int f2), .val (.int f3), .val (.int f4), .val (.int (x4 &&& (3 : Int32))), .val (.ref pp), .val (.int sz), .val (.ref b60), .val (.ref b100), .val (.int z5), .val (.int ps), .val (.int (D5.getD 0 0)), .val (.int ((x4.toUInt32 >>> ((2 : Int32) &&& 31).toUInt32).toInt32)), .val (.ref b192)] [(.int (0 : Int32)), (.ref b192)])) _
                                              refine X192.baloadBytes hx (j := (0 : Int32)) (v := (.int (D5.getD 0 0))) Ar196.1 (State.isArrayOf_alike hZ.alike Ar196.2.1) Ar196.2.2 hin196 (H196.at hin196 hr196.2) (g := (mkF m 610 #[.val (.int x0), .val (.int x1), .val (.int x2), .val (.long x3), .second, .val (.int x4), .val (.int x5), .val (.int f0), .val (.int f1), .val (.int f2), .val (.int f3), .val (.int f4), .val (.int (x4 &&& (3 : Int32))), .val (.ref pp), .val (.int sz), .val (.ref b60), .val (.ref b100), .val (.int z5), .val (.int ps), .val (.int (D5.getD 0 0)), .val (.int ((x4.toUInt32 >>> ((2 : Int32) &&& 31).toUInt32).toInt32)), .val (.ref b192)] [(.int (0 : Int32)), (.ref b192)])) rfl rfl (hb hby at_610) _ ?_
                                              show Steps p.tables e below (T192.setTop (mkF m 611 #[.val (.int x0), .val (.int x1), .val (.int x2), .val (.long x3), .second, .val (.int x4), .val (.int x5), .val (.int f0), .val (.int f1), .val (.int f2), .val (.int f3), .val (.int f4), .val (.int (x4 &&& (3 : Int32))), .val (.ref pp), .val (.int sz), .val (.ref b60), .val (.ref b100), .val (.int z5), .val (.int ps), .val (.int (D5.getD 0 0)), .val (.int ((x4.toUInt32 >>> ((2 : Int32) &&& 31).toUInt32).toInt32)), .val (.ref b192)] [(.int (D5.getD 0 0))])) _
                                              refine XS.iload X192.here hx rfl (hb hby at_611) rfl ?_
                                              show Steps p.tables e below (T192.setTop (mkF m 613 #[.val (.int x0), .val (.int x1), .val (.int x2), .val (.long x3), .second, .val (.int x4), .val (.int x5), .val (.int f0), .val (.int f1), .val (.int f2), .val (.int f3), .val (.int f4), .val (.int (x4 &&& (3 : Int32))), .val (.ref pp), .val (.int sz), .val (.ref b60), .val (.ref b100), .val (.int z5), .val (.int ps), .val (.int (D5.getD 0 0)), .val (.int ((x4.toUInt32 >>> ((2 : Int32) &&& 31).toUInt32).toInt32)), .val (.ref b192)] [(.int (D5.getD 0 0)), (.int (D5.getD 0 0))])) _
                                              refine XS.icmpYes X192.here hx rfl (pc0 := 613) (pc' := 618) rfl (hb hby at_613) rfl (teq (rfl : (D5.getD 0 0) = (D5.getD 0 0))).1 (by decide) (by decide) ?_
                                              show Steps p.tables e below (T192.setTop (mkF m 618 #[.val (.int x0), .val (.int x1), .val (.int x2), .val (.long x3), .second, .val (.int x4), .val (.int x5), .val (.int f0), .val (.int f1), .val (.int f2), .val (.int f3), .val (.int f4), .val (.int (x4 &&& (3 : Int32))), .val (.ref pp), .val (.int sz), .val (.ref b60), .val (.ref b100), .val (.int z5), .val (.int ps), .val (.int (D5.getD 0 0)), .val (.int ((x4.toUInt32 >>> ((2 : Int32) &&& 31).toUInt32).toInt32)), .val (.ref b192)] [])) _
                                              refine XS.aload X192.here hx rfl (hb hby at_618) rfl rfl ?_
                                              show Steps p.tables e below (T192.setTop (mkF m 620 #[.val (.int x0), .val (.int x1), .val (.int x2), .val (.long x3), .second, .val (.int x4), .val (.int x5), .val (.int f0), .val (.int f1), .val (.int f2), .val (.int f3), .val (.int f4), .val (.int (x4 &&& (3 : Int32))), .val (.ref pp), .val (.int sz), .val (.ref b60), .val (.ref b100), .val (.int z5), .val (.int ps), .val (.int (D5.getD 0 0)), .val (.int ((x4.toUInt32 >>> ((2 : Int32) &&& 31).toUInt32).toInt32)), .val (.ref b192)] [(.ref b100)])) _
                                              refine X192.arraylength hx Ar197.1 (State.isArrayOf_alike hZ.alike Ar197.2.1) (g := (mkF m 620 #[.val (.int x0), .val (.int x1), .val (.int x2), .val (.long x3), .second, .val (.int x4), .val (.int x5), .val (.int f0), .val (.int f1), .val (.int f2), .val (.int f3), .val (.int f4), .val (.int (x4 &&& (3 : Int32))), .val (.ref pp), .val (.int sz), .val (.ref b60), .val (.ref b100), .val (.int z5), .val (.int ps), .val (.int (D5.getD 0 0)), .val (.int ((x4.toUInt32 >>> ((2 : Int32) &&& 31).toUInt32).toInt32)), .val (.ref b192)] [(.ref b100)])) rfl rfl (hb hby at_620) _ ?_
                                              rw [len_of S197 M197]
                                              show Steps p.tables e below (T192.setTop (mkF m 621 #[.val (.int x0), .val (.int x1), .val (.int x2), .val (.long x3), .second, .val (.int x4), .val (.int x5), .val (.int f0), .val (.int f1), .val (.int f2), .val (.int f3), .val (.int f4), .val (.int (x4 &&& (3 : Int32))), .val (.ref pp), .val (.int sz), .val (.ref b60), .val (.ref b100), .val (.int z5), .val (.int ps), .val (.int (D5.getD 0 0)), .val (.int ((x4.toUInt32 >>> ((2 : Int32) &&& 31).toUInt32).toInt32)), .val (.ref b192)] [(.int z5)])) _
                                              refine XS.iload X192.here hx rfl (hb hby at_621) rfl ?_
                                              show Steps p.tables e below (T192.setTop (mkF m 623 #[.val (.int x0), .val (.int x1), .val (.int x2), .val (.long x3), .second, .val (.int x4), .val (.int x5), .val (.int f0), .val (.int f1), .val (.int f2), .val (.int f3), .val (.int f4), .val (.int (x4 &&& (3 : Int32))), .val (.ref pp), .val (.int sz), .val (.ref b60), .val (.ref b100), .val (.int z5), .val (.int ps), .val (.int (D5.getD 0 0)), .val (.int ((x4.toUInt32 >>> ((2 : Int32) &&& 31).toUInt32).toInt32)), .val (.ref b192)] [(.int z5), (.int z5)])) _
                                              refine XS.icmpNo X192.here hx rfl (hb hby at_623) rfl (teq (rfl : z5 = z5)).2 ?_
                                              show Steps p.tables e below (T192.setTop (mkF m 626 #[.val (.int x0), .val (.int x1), .val (.int x2), .val (.long x3), .second, .val (.int x4), .val (.int x5), .val (.int f0), .val (.int f1), .val (.int f2), .val (.int f3), .val (.int f4), .val (.int (x4 &&& (3 : Int32))), .val (.ref pp), .val (.int sz), .val (.ref b60), .val (.ref b100), .val (.int z5), .val (.int ps), .val (.int (D5.getD 0 0)), .val (.int ((x4.toUInt32 >>> ((2 : Int32) &&& 31).toUInt32).toInt32)), .val (.ref b192)] [])) _
                                              refine XS.iconst X192.here hx rfl (hb hby at_626) ?_
                                              show Steps p.tables e below (T192.setTop (mkF m 627 #[.val (.int x0), .val (.int x1), .val (.int x2), .val (.long x3), .second, .val (.int x4), .val (.int x5), .val (.int f0), .val (.int f1), .val (.int f2), .val (.int f3), .val (.int f4), .val (.int (x4 &&& (3 : Int32))), .val (.ref pp), .val (.int sz), .val (.ref b60), .val (.ref b100), .val (.int z5), .val (.int ps), .val (.int (D5.getD 0 0)), .val (.int ((x4.toUInt32 >>> ((2 : Int32) &&& 31).toUInt32).toInt32)), .val (.ref b192)] [(.int (1 : Int32))])) _
                                              refine XS.goto X192.here hx rfl (pc0 := 627) (pc' := 631) rfl (hb hby at_627) (by decide) (by decide) ?_
                                              show Steps p.tables e below (T192.setTop (mkF m 631 #[.val (.int x0), .val (.int x1), .val (.int x2), .val (.long x3), .second, .val (.int x4), .val (.int x5), .val (.int f0), .val (.int f1), .val (.int f2), .val (.int f3), .val (.int f4), .val (.int (x4 &&& (3 : Int32))), .val (.ref pp), .val (.int sz), .val (.ref b60), .val (.ref b100), .val (.int z5), .val (.int ps), .val (.int (D5.getD 0 0)), .val (.int ((x4.toUInt32 >>> ((2 : Int32) &&& 31).toUInt32).toInt32)), .val (.ref b192)] [(.int (1 : Int32))])) _
                                              exact retN X192 hx (t := .boolean) Bd.returns (by simp) (hb hby at_631) hr
                                            · show own_Q_own_law Z x0 x1 x2 x3 x4 x5 h0 n0 _ T192.heap _
                                              exact ⟨rfl, N192⟩
                                        · skip
                                          as_aux_lemma =>
                                            obtain ⟨cq198, kq198, q198a, q198b, q198c⟩ := isOf hZ e142 Ew
                                            obtain ⟨_, _, ⟨T198, L198, k198, n198⟩, -, X198, ⟨Lc198, hQ198, l198, y198, z198⟩, st198⟩ := X142.virtualBack hx (y := (⟨"com/example/vigilant_consumer/vigilantconsumer/ProtocolWriter", "int8", "(I)V"⟩ : MethodName)) (z := (⟨"com/example/vigilant_consumer/vigilantconsumer/ProtocolWriter", "int8", "(I)V"⟩ : MethodName)) hown (mvT hZ (hw _ (List.mem_of_getElem? (i := 31) rfl))) (mvT hZ (hw _ (List.mem_of_getElem? (i := 32) rfl))) (notFace_of_selects (args := #[]) (mvT hZ (hw _ (List.mem_of_getElem? (i := 34) rfl)))) (mvT hZ (hw _ (List.mem_of_getElem? (i := 34) rfl))) (mvT hZ (hw _ (List.mem_of_getElem? (i := 33) rfl))) (by decide) (backOf (W := 0) (own_int8G l Z a0 hw [] b60 ((x4.toUInt32 >>> ((2 : Int32) &&& 31).toUInt32).toInt32) bb kk cc z5 D5 T100.heap n0 Z101 Ew Fb Fl Vb Eb g_b60 gbb hz5 hcc hcl (by have q_ := hb5_; omega)) hZ (hw _ (List.mem_of_getElem? (i := 35) rfl)) (hw _ (List.mem_of_getElem? (i := 3) rfl)) (by decide) (by decide)) q198a q198c (g := (mkF m 569 #[.val (.int x0), .val (.int x1), .val (.int x2), .val (.long x3), .second, .val (.int x4), .val (.int x5), .val (.int f0), .val (.int f1), .val (.int f2), .val (.int f3), .val (.int f4), .val (.int (x4 &&& (3 : Int32))), .val (.ref pp), .val (.int sz), .val (.ref b60), .val (.ref b100), .val (.int z5), .val (.int ps), .val (.int (0 : Int32)), .val (.int ((x4.toUInt32 >>> ((2 : Int32) &&& 31).toUInt32).toInt32)), .unset] [(.int ((x4.toUInt32 >>> ((2 : Int32) &&& 31).toUInt32).toInt32)), (.ref b60)])) rfl (by rw [hml]; rfl) (Steps.refl _) (argsL := [(.int ((x4.toUInt32 >>> ((2 : Int32) &&& 31).toUInt32).toInt32))]) (rest := []) (lenOf own_pd0 rfl) rfl (by show 2 * 0 + _ ≤ _; exact Nat.le_of_eq rfl) (hb hby at_569) (fun _ _ => ⟨rfl, e142, (by decide : 5 + 1 ≤ _), (by decide : 422 + 128 ≤ _)⟩)
                                            dsimp only [Pt.U, Pt.locs, Pt.cells, Pt.slots] at X198 l198 y198 z198 st198 hQ198
                                            subst l198 y198 z198
                                            obtain ⟨b198, kq198, cg198, rfl, N198q, K198, Fb198, Fl198, V198, Q198, hb198, hcc198, hnd198⟩ := hQ198
                                            have g_b198 : n0 ≤ b198 := hb198.elim (fun q_ => by rw [q_]; exact gbb) (fun q_ => Nat.le_trans Z101 q_)
                                            have N198 := Fr.app N142 N198q
                                            have Ew := Ew.keep K198
                                            have Eb := Eb.keep K198
                                            have V100 := V100.keep K198 (ninS (Ne.symm ne_b60_b100) (ninS (Ne.symm ne_bb_b100) nin0))
                                            have Z199 := Nat.le_trans Z101 K198.1
                                            have hz6 : (z5 + (1 : Int32)).toInt = ((D5 ++ [(((x4.toUInt32 >>> ((2 : Int32) &&& 31).toUInt32).toInt32).toInt8.toInt32)]).length : Int) := own_hz1 hz5 (by have q_ := hb5_; omega)
                                            obtain ⟨cq200, kq200, q200a, q200b, q200c⟩ := isOf hZ rfl Ew
                                            obtain ⟨_, _, ⟨T200, L200, k200, n200⟩, -, X200, ⟨Lc200, hQ200, l200, y200, z200⟩, st200⟩ := X198.virtualBack hx (y := (⟨"com/example/vigilant_consumer/vigilantconsumer/ProtocolWriter", "toByteArray", "()[B"⟩ : MethodName)) (z := (⟨"com/example/vigilant_consumer/vigilantconsumer/ProtocolWriter", "toByteArray", "()[B"⟩ : MethodName)) hown (mvT hZ (hw _ (List.mem_of_getElem? (i := 12) rfl))) (mvT hZ (hw _ (List.mem_of_getElem? (i := 13) rfl))) (notFace_of_selects (args := #[]) (mvT hZ (hw _ (List.mem_of_getElem? (i := 15) rfl)))) (mvT hZ (hw _ (List.mem_of_getElem? (i := 15) rfl))) (mvT hZ (hw _ (List.mem_of_getElem? (i := 14) rfl))) (by decide) (backOf (W := 0) (own_toB l Z a0 hw [] b60 b198 kq198 cg198 (z5 + (1 : Int32)) (D5 ++ [(((x4.toUInt32 >>> ((2 : Int32) &&& 31).toUInt32).toInt32).toInt8.toInt32)]) T198.heap n0 Z199 Fb198 Fl198 V198 Q198 hz6 hnd198 (own_c64 hcc198).2) hZ (hw _ (List.mem_of_getElem? (i := 16) rfl)) (hw _ (List.mem_of_getElem? (i := 3) rfl)) (by decide) (by decide)) q200a q200c (g := (mkF m 574 #[.val (.int x0), .val (.int x1), .val (.int x2), .val (.long x3), .second, .val (.int x4), .val (.int x5), .val (.int f0), .val (.int f1), .val (.int f2), .val (.int f3), .val (.int f4), .val (.int (x4 &&& (3 : Int32))), .val (.ref pp), .val (.int sz), .val (.ref b60), .val (.ref b100), .val (.int z5), .val (.int ps), .val (.int (0 : Int32)), .val (.int ((x4.toUInt32 >>> ((2 : Int32) &&& 31).toUInt32).toInt32)), .unset] [(.ref b60)])) rfl (by rw [hml]; rfl) (Steps.refl _) (argsL := []) (rest := []) (lenOf own_pd7 rfl) rfl (by show 2 * 0 + _ ≤ _; exact Nat.le_of_eq rfl) (hb hby at_574) (fun _ _ => ⟨rfl, rfl, (by decide : 6 + 1 ≤ _), (by decide : 550 + 128 ≤ _)⟩)
                                            dsimp only [Pt.U, Pt.locs, Pt.cells, Pt.slots] at X200 l200 y200 z200 st200 hQ200
                                            subst l200 y200 z200
                                            obtain ⟨b200, kq200, rfl, N200q, K200, sz200, V200, Q200⟩ := hQ200
                                            have N200 := Fr.app N198 N200q
                                            have g_b200 : n0 ≤ b200 := Nat.le_trans Z199 sz200
                                            have ne_b60_b200 : b60 ≠ b200 := Nat.ne_of_lt (Nat.lt_of_lt_of_le Ew.lt sz200)
                                            have ne_b100_b200 : b100 ≠ b200 := Nat.ne_of_lt (Nat.lt_of_lt_of_le V100.lt sz200)
                                            have ne_b198_b200 : b198 ≠ b200 := Nat.ne_of_lt (Nat.lt_of_lt_of_le V198.lt sz200)
                                            have Ew := Ew.keep K200
                                            have V100 := V100.keep K200 nin0
                                            have Fb198 := Fb198.keep K200 nin0
                                            have Fl198 := Fl198.keep K200 nin0
                                            have V198 := V198.keep K200 nin0
                                            have Q198 := Q198.keep K200
                                            have Z201 := Nat.le_trans Z199 K200.1
                                            obtain ⟨cl202, Ar202, q202, S202, M202, H202, G202⟩ := id V200
                                            obtain ⟨cl203, Ar203, q203, S203, M203, H203, G203⟩ := id V200
                                            have hr203 : (¬ z5 < 0 ∧ z5 < (z5 + (1 : Int32))) ∧ (List.map Value.int (D5 ++ [(((x4.toUInt32 >>> ((2 : Int32) &&& 31).toUInt32).toInt32).toInt8.toInt32)])).getD (z5).toNatClampNeg (.int (0 : Int32)) = .int (((x4.toUInt32 >>> ((2 : Int32) &&& 31).toUInt32).toInt32).toInt8.toInt32) := own_rd (D := D5 ++ [(((x4.toUInt32 >>> ((2 : Int32) &&& 31).toUInt32).toInt32).toInt8.toInt32)]) (A := D5) (L := [(((x4.toUInt32 >>> ((2 : Int32) &&& 31).toUInt32).toInt32).toInt8.toInt32)]) (B := []) (at_ := z5) (j := z5) 0 (by rw [List.append_nil]) hz5 hz6 (by simp) (show 0 < 1 from by decide) (v := (((x4.toUInt32 >>> ((2 : Int32) &&& 31).toUInt32).toInt32).toInt8.toInt32)) rfl
                                            have hin203 : ¬ (z5 < 0 ∨ cl203.slots.size ≤ (z5).toNatClampNeg) := inb_of S203 hr203.1
                                            obtain ⟨cl204, Ar204, q204, S204, M204, H204, G204⟩ := id V100
                                            obtain ⟨fs, hr, hrun, hended, hW, hsame⟩ := X200.leave (v := some (.int (1 : Int32))) (fun h => by rw [Bd.returns] at h; cases h)
                                            refine ⟨_, _, pre180 _ ?_, hrun, hended, _, _, rfl, ?_, ⟨_, rfl⟩, hW, hsame.mono (by decide) (by decide)⟩
                                            · refine XS.ifYes X142.here hx rfl (pc0 := 515) (pc' := 559) rfl (hb hby at_515) rfl ((if0 _ _).trans (flt hc181).2.2.2) (by decide) (by decide) ?_
                                              show Steps p.tables e below (T142.setTop (mkF m 559 #[.val (.int x0), .val (.int x1), .val (.int x2), .val (.long x3), .second, .val (.int x4), .val (.int x5), .val (.int f0), .val (.int f1), .val (.int f2), .val (.int f3), .val (.int f4), .val (.int (x4 &&& (3 : Int32))), .val (.ref pp), .val (.int sz), .val (.ref b60), .val (.ref b100), .val (.int z5), .val (.int ps), .val (.int (0 : Int32)), .unset, .unset] [])) _
                                              refine XS.iload X142.here hx rfl (hb hby at_559) rfl ?_
                                              show Steps p.tables e below (T142.setTop (mkF m 561 #[.val (.int x0), .val (.int x1), .val (.int x2), .val (.long x3), .second, .val (.int x4), .val (.int x5), .val (.int f0), .val (.int f1), .val (.int f2), .val (.int f3), .val (.int f4), .val (.int (x4 &&& (3 : Int32))), .val (.ref pp), .val (.int sz), .val (.ref b60), .val (.ref b100), .val (.int z5), .val (.int ps), .val (.int (0 : Int32)), .unset, .unset] [(.int x4)])) _
                                              refine XS.iconst X142.here hx rfl (hb hby at_561) ?_
                                              show Steps p.tables e below (T142.setTop (mkF m 562 #[.val (.int x0), .val (.int x1), .val (.int x2), .val (.long x3), .second, .val (.int x4), .val (.int x5), .val (.int f0), .val (.int f1), .val (.int f2), .val (.int f3), .val (.int f4), .val (.int (x4 &&& (3 : Int32))), .val (.ref pp), .val (.int sz), .val (.ref b60), .val (.ref b100), .val (.int z5), .val (.int ps), .val (.int (0 : Int32)), .unset, .unset] [(.int (2 : Int32)), (.int x4)])) _
                                              refine XS.iushr X142.here hx rfl (hb hby at_562) rfl ?_
                                              show Steps p.tables e below (T142.setTop (mkF m 563 #[.val (.int x0), .val (.int x1), .val (.int x2), .val (.long x3), .second, .val (.int x4), .val (.int x5), .val (.int f0), .val (.int f1), .val (.int f2), .val (.int f3), .val (.int f4), .val (.int (x4 &&& (3 : Int32))), .val (.ref pp), .val (.int sz), .val (.ref b60), .val (.ref b100), .val (.int z5), .val (.int ps), .val (.int (0 : Int32)), .unset, .unset] [(.int ((x4.toUInt32 >>> ((2 : Int32) &&& 31).toUInt32).toInt32))])) _
                                              refine XS.istore X142.here hx rfl (hb hby at_563) rfl (l' := #[.val (.int x0), .val (.int x1), .val (.int x2), .val (.long x3), .second, .val (.int x4), .val (.int x5), .val (.int f0), .val (.int f1), .val (.int f2), .val (.int f3), .val (.int f4), .val (.int (x4 &&& (3 : Int32))), .val (.ref pp), .val (.int sz), .val (.ref b60), .val (.ref b100), .val (.int z5), .val (.int ps), .val (.int (0 : Int32)), .val (.int ((x4.toUInt32 >>> ((2 : Int32) &&& 31).toUInt32).toInt32)), .unset]) rfl ?_
                                              show Steps p.tables e below (T142.setTop (mkF m 565 #[.val (.int x0), .val (.int x1), .val (.int x2), .val (.long x3), .second, .val (.int x4), .val (.int x5), .val (.int f0), .val (.int f1), .val (.int f2), .val (.int f3), .val (.int f4), .val (.int (x4 &&& (3 : Int32))), .val (.ref pp), .val (.int sz), .val (.ref b60), .val (.ref b100), .val (.int z5), .val (.int ps), .val (.int (0 : Int32)), .val (.int ((x4.toUInt32 >>> ((2 : Int32) &&& 31).toUInt32).toInt32)), .unset] [])) _
                                              refine XS.aload X142.here hx rfl (hb hby at_565) rfl rfl ?_
                                              show Steps p.tables e below (T142.setTop (mkF m 567 #[.val (.int x0), .val (.int x1), .val (.int x2), .val (.long x3), .second, .val (.int x4), .val (.int x5), .val (.int f0), .val (.int f1), .val (.int f2), .val (.int f3), .val (.int f4), .val (.int (x4 &&& (3 : Int32))), .val (.ref pp), .val (.int sz), .val (.ref b60), .val (.ref b100), .val (.int z5), .val (.int ps), .val (.int (0 : Int32)), .val (.int ((x4.toUInt32 >>> ((2 : Int32) &&& 31).toUInt32).toInt32)), .unset] [(.ref b60)])) _
                                              refine XS.iload X142.here hx rfl (hb hby at_567) rfl ?_
                                              show Steps p.tables e below (T142.setTop (mkF m 569 #[.val (.int x0), .val (.int x1), .val (.int x2), .val (.long x3), .second, .val (.int x4), .val (.int x5), .val (.int f0), .val (.int f1), .val (.int f2), .val (.int f3), .val (.int f4), .val (.int (x4 &&& (3 : Int32))), .val (.ref pp), .val (.int sz), .val (.ref b60), .val (.ref b100), .val (.int z5), .val (.int ps), .val (.int (0 : Int32)), .val (.int ((x4.toUInt32 >>> ((2 : Int32) &&& 31).toUInt32).toInt32)), .unset] [(.int ((x4.toUInt32 >>> ((2 : Int32) &&& 31).toUInt32).toInt32)), (.ref b60)])) _
                                              refine st198.trans ?_
                                              show Steps p.tables e below (T198.setTop (mkF m 572 #[.val (.int x0), .val (.int x1), .val (.int x2), .val (.long x3), .second, .val (.int x4), .val (.int x5), .val (.int f0), .val (.int f1), .val (.int f2), .val (.int f3), .val (.int f4), .val (.int (x4 &&& (3 : Int32))), .val (.ref pp), .val (.int sz), .val (.ref b60), .val (.ref b100), .val (.int z5), .val (.int ps), .val (.int (0 : Int32)), .val (.int ((x4.toUInt32 >>> ((2 : Int32) &&& 31).toUInt32).toInt32)), .unset] [])) _
                                              refine XS.aload X198.here hx rfl (hb hby at_572) rfl rfl ?_
                                              show Steps p.tables e below (T198.setTop (mkF m 574 #[.val (.int x0), .val (.int x1), .val (.int x2), .val (.long x3), .second, .val (.int x4), .val (.int x5), .val (.int f0), .val (.int f1), .val (.int f2), .val (.int f3), .val (.int f4), .val (.int (x4 &&& (3 : Int32))), .val (.ref pp), .val (.int sz), .val (.ref b60), .val (.ref b100), .val (.int z5), .val (.int ps), .val (.int (0 : Int32)), .val (.int ((x4.toUInt32 >>> ((2 : Int32) &&& 31).toUInt32).toInt32)), .unset] [(.ref b60)])) _
                                              refine st200.trans ?_
                                              show Steps p.tables e below (T200.setTop (mkF m 577 #[.val (.int x0), .val (.int x1), .val (.int x2), .val (.long x3), .second, .val (.int x4), .val (.int x5), .val (.int f0), .val (.int f1), .val (.int f2), .val (.int f3), .val (.int f4), .val (.int (x4 &&& (3 : Int32))), .val (.ref pp), .val (.int sz), .val (.ref b60), .val (.ref b100), .val (.int z5), .val (.int ps), .val (.int (0 : Int32)), .val (.int ((x4.toUInt32 >>> ((2 : Int32) &&& 31).toUInt32).toInt32)), .unset] [(.ref b200)])) _
                                              refine XS.astore X200.here hx rfl (hb hby at_577) rfl rfl (l' := #[.val (.int x0), .val (.int x1), .val (.int x2), .val (.long x3), .second, .val (.int x4), .val (.int x5), .val (.int f0), .val (.int f1), .val (.int f2), .val (.int f3), .val (.int f4), .val (.int (x4 &&& (3 : Int32))), .val (.ref pp), .val (.int sz), .val (.ref b60), .val (.ref b100), .val (.int z5), .val (.int ps), .val (.int (0 : Int32)), .val (.int ((x4.toUInt32 >>> ((2 : Int32) &&& 31).toUInt32).toInt32)), .val (.ref b200)]) rfl ?_
                                              show Steps p.tables e below (T200.setTop (mkF m 579 #[.val (.int x0), .val (.int x1), .val (.int x2), .val (.long x3), .second, .val (.int x4), .val (.int x5), .val (.int f0), .val (.int f1), .val (.int f2), .val (.int f3), .val (.int f4), .val (.int (x4 &&& (3 : Int32))), .val (.ref pp), .val (.int sz), .val (.ref b60), .val (.ref b100), .val (.int z5), .val (.int ps), .val (.int (0 : Int32)), .val (.int ((x4.toUInt32 >>> ((2 : Int32) &&& 31).toUInt32).toInt32)), .val (.ref b200)] [])) _
                                              refine XS.aload X200.here hx rfl (hb hby at_579) rfl rfl ?_
                                              show Steps p.tables e below (T200.setTop (mkF m 581 #[.val (.int x0), .val (.int x1), .val (.int x2), .val (.long x3), .second, .val (.int x4), .val (.int x5), .val (.int f0), .val (.int f1), .val (.int f2), .val (.int f3), .val (.int f4), .val (.int (x4 &&& (3 : Int32))), .val (.ref pp), .val (.int sz), .val (.ref b60), .val (.ref b100), .val (.int z5), .val (.int ps), .val (.int (0 : Int32)), .val (.int ((x4.toUInt32 >>> ((2 : Int32) &&& 31).toUInt32).toInt32)), .val (.ref b200)] [(.ref b200)])) _
                                              refine X200.arraylength hx Ar202.1 (State.isArrayOf_alike hZ.alike Ar202.2.1) (g := (mkF m 581 #[.val (.int x0), .val (.int x1), .val (.int x2), .val (.long x3), .second, .val (.int x4), .val (.int x5), .val (.int f0), .val (.int f1), .val (.int f2), .val (.int f3), .val (.int f4), .val (.int (x4 &&& (3 : Int32))), .val (.ref pp), .val (.int sz), .val (.ref b60), .val (.ref b100), .val (.int z5), .val (.int ps), .val (.int (0 : Int32)), .val (.int ((x4.toUInt32 >>> ((2 : Int32) &&& 31).toUInt32).toInt32)), .val (.ref b200)] [(.ref b200)])) rfl rfl (hb hby at_581) _ ?_
                                              rw [len_of S202 M202]
                                              show Steps p.tables e below (T200.setTop (mkF m 582 #[.val (.int x0), .val (.int x1), .val (.int x2), .val (.long x3), .second, .val (.int x4), .val (.int x5), .val (.int f0), .val (.int f1), .val (.int f2), .val (.int f3), .val (.int f4), .val (.int (x4 &&& (3 : Int32))), .val (.ref pp), .val (.int sz), .val (.ref b60), .val (.ref b100), .val (.int z5), .val (.int ps), .val (.int (0 : Int32)), .val (.int ((x4.toUInt32 >>> ((2 : Int32) &&& 31).toUInt32).toInt32)), .val (.ref b200)] [(.int (z5 + (1 : Int32)))])) _
                                              refine XS.iload X200.here hx rfl (hb hby at_582) rfl ?_
                                              show Steps p.tables e below (T200.setTop (mkF m 584 #[.val (.int x0), .val (.int x1), .val (.int x2), .val (.long x3), .second, .val (.int x4), .val (.int x5), .val (.int f0), .val (.int f1), .val (.int f2), .val (.int f3), .val (.int f4), .val (.int (x4 &&& (3 : Int32))), .val (.ref pp), .val (.int sz), .val (.ref b60), .val (.ref b100), .val (.int z5), .val (.int ps), .val (.int (0 : Int32)), .val (.int ((x4.toUInt32 >>> ((2 : Int32) &&& 31).toUInt32).toInt32)), .val (.ref b200)] [(.int z5), (.int (z5 + (1 : Int32)))])) _
                                              refine XS.iconst X200.here hx rfl (hb hby at_584) ?_
                                              show Steps p.tables e below (T200.setTop (mkF m 585 #[.val (.int x0), .val (.int x1), .val (.int x2), .val (.long x3), .second, .val (.int x4), .val (.int x5), .val (.int f0), .val (.int f1), .val (.int f2), .val (.int f3), .val (.int f4), .val (.int (x4 &&& (3 : Int32))), .val (.ref pp), .val (.int sz), .val (.ref b60), .val (.ref b100), .val (.int z5), .val (.int ps), .val (.int (0 : Int32)), .val (.int ((x4.toUInt32 >>> ((2 : Int32) &&& 31).toUInt32).toInt32)), .val (.ref b200)] [(.int (1 : Int32)), (.int z5), (.int (z5 + (1 : Int32)))])) _
                                              refine XS.iadd X200.here hx rfl (hb hby at_585) rfl ?_
                                              show Steps p.tables e below (T200.setTop (mkF m 586 #[.val (.int x0), .val (.int x1), .val (.int x2), .val (.long x3), .second, .val (.int x4), .val (.int x5), .val (.int f0), .val (.int f1), .val (.int f2), .val (.int f3), .val (.int f4), .val (.int (x4 &&& (3 : Int32))), .val (.ref pp), .val (.int sz), .val (.ref b60), .val (.ref b100), .val (.int z5), .val (.int ps), .val (.int (0 : Int32)), .val (.int ((x4.toUInt32 >>> ((2 : Int32) &&& 31).toUInt32).toInt32)), .val (.ref b200)] [(.int (z5 + (1 : Int32))), (.int (z5 + (1 : Int32)))])) _
                                              refine XS.icmpNo X200.here hx rfl (hb hby at_586) rfl (teq (rfl : (z5 + (1 : Int32)) = (z5 + (1 : Int32)))).2 ?_
                                              show Steps p.tables e below (T200.setTop (mkF m 589 #[.val (.int x0), .val (.int x1), .val (.int x2), .val (.long x3), .second, .val (.int x4), .val (.int x5), .val (.int f0), .val (.int f1), .val (.int f2), .val (.int f3), .val (.int f4), .val (.int (x4 &&& (3 : Int32))), .val (.ref pp), .val (.int sz), .val (.ref b60), .val (.ref b100), .val (.int z5), .val (.int ps), .val (.int (0 : Int32)), .val (.int ((x4.toUInt32 >>> ((2 : Int32) &&& 31).toUInt32).toInt32)), .val (.ref b200)] [])) _
                                              refine XS.aload X200.here hx rfl (hb hby at_589) rfl rfl ?_
                                              show Steps p.tables e below (T200.setTop (mkF m 591 #[.val (.int x0), .val (.int x1), .val (.int x2), .val (.long x3), .second, .val (.int x4), .val (.int x5), .val (.int f0), .val (.int f1), .val (.int f2), .val (.int f3), .val (.int f4), .val (.int (x4 &&& (3 : Int32))), .val (.ref pp), .val (.int sz), .val (.ref b60), .val (.ref b100), .val (.int z5), .val (.int ps), .val (.int (0 : Int32)), .val (.int ((x4.toUInt32 >>> ((2 : Int32) &&& 31).toUInt32).toInt32)), .val (.ref b200)] [(.ref b200)])) _
                                              refine XS.iload X200.here hx rfl (hb hby at_591) rfl ?_
                                              show Steps p.tables e below (T200.setTop (mkF m 593 #[.val (.int x0), .val (.int x1), .val (.int x2), .val (.long x3), .second, .val (.int x4), .val (.int x5), .val (.int f0), .val (.int f1), .val (.int f2), .val (.int f3), .val (.int f4), .val (.int (x4 &&& (3 : Int32))), .val (.ref pp), .val (.int sz), .val (.ref b60), .val (.ref b100), .val (.int z5), .val (.int ps), .val (.int (0 : Int32)), .val (.int ((x4.toUInt32 >>> ((2 : Int32) &&& 31).toUInt32).toInt32)), .val (.ref b200)] [(.int z5), (.ref b200)])) _
                                              refine X200.baloadBytes hx (j := z5) (v := (.int (((x4.toUInt32 >>> ((2 : Int32) &&& 31).toUInt32).toInt32).toInt8.toInt32))) Ar203.1 (State.isArrayOf_alike hZ.alike Ar203.2.1) Ar203.2.2 hin203 (H203.at hin203 hr203.2) (g := (mkF m 593 #[.val (.int x0), .val (.int x1), .val (.int x2), .val (.long x3), .second, .val (.int x4), .val (.int x5), .val (.int f0), .val (.int f1), .val (.int f2), .val (.int f3), .val (.int f4), .val (.int (x4 &&& (3 : Int32))), .val (.ref pp), .val (.int sz), .val (.ref b60), .val (.ref b100), .val (.int z5), .val (.int ps), .val (.int (0 : Int32)), .val (.int ((x4.toUInt32 >>> ((2 : Int32) &&& 31).toUInt32).toInt32)), .val (.ref b200)] [(.int z5), (.ref b200)])) rfl rfl (hb hby at_593) _ ?_
                                              show Steps p.tables e below (T200.setTop (mkF m 594 #[.val (.int x0), .val (.int x1), .val (.int x2), .val (.long x3), .second, .val (.int x4), .val (.int x5), .val (.int f0), .val (.int f1), .val (.int f2), .val (.int f3), .val (.int f4), .val (.int (x4 &&& (3 : Int32))), .val (.ref pp), .val (.int sz), .val (.ref b60), .val (.ref b100), .val (.int z5), .val (.int ps), .val (.int (0 : Int32)), .val (.int ((x4.toUInt32 >>> ((2 : Int32) &&& 31).toUInt32).toInt32)), .val (.ref b200)] [(.int (((x4.toUInt32 >>> ((2 : Int32) &&& 31).toUInt32).toInt32).toInt8.toInt32))])) _
                                              refine XS.iload X200.here hx rfl (hb hby at_594) rfl ?_
                                              show Steps p.tables e below (T200.setTop (mkF m 596 #[.val (.int x0), .val (.int x1), .val (.int x2), .val (.long x3), .second, .val (.int x4), .val (.int x5), .val (.int f0), .val (.int f1), .val (.int f2), .val (.int f3), .val (.int f4), .val (.int (x4 &&& (3 : Int32))), .val (.ref pp), .val (.int sz), .val (.ref b60), .val (.ref b100), .val (.int z5), .val (.int ps), .val (.int (0 : Int32)), .val (.int ((x4.toUInt32 >>> ((2 : Int32) &&& 31).toUInt32).toInt32)), .val (.ref b200)] [(.int ((x4.toUInt32 >>> ((2 : Int32) &&& 31).toUInt32).toInt32)), (.int (((x4.toUInt32 >>> ((2 : Int32) &&& 31).toUInt32).toInt32).toInt8.toInt32))])) _
                                              refine XS.i2b X200.here hx rfl (hb hby at_596) rfl ?_
                                              show Steps p.tables e below (T200.setTop (mkF m 597 #[.val (.int x0), .val (.int x1), .val (.int x2), .val (.long x3), .second, .val (.int x4), .val (.int x5), .val (.int f0), .val (.int f1), .val (.int f2), .val (.int f3), .val (.int f4), .val (.int (x4 &&& (3 : Int32))), .val (.ref pp), .val (.int sz), .val (.ref b60), .val (.ref b100), .val (.int z5), .val (.int ps), .val (.int (0 : Int32)), .val (.int ((x4.toUInt32 >>> ((2 : Int32) &&& 31).toUInt32).toInt32)), .val (.ref b200)] [(.int (((x4.toUInt32 >>> ((2 : Int32) &&& 31).toUInt32).toInt32).toInt8.toInt32)), (.int (((x4.toUInt32 >>> ((2 : Int32) &&& 31).toUInt32).toInt32).toInt8.toInt32))])) _
                                              refine XS.icmpYes X200.here hx rfl (pc0 := 597) (pc' := 602) rfl (hb hby at_597) rfl (teq (rfl : (((x4.toUInt32 >>> ((2 : Int32) &&& 31).toUInt32).toInt32).toInt8.toInt32) = (((x4.toUInt32 >>> ((2 : Int32) &&& 31).toUInt32).toInt32).toInt8.toInt32))).1 (by decide) (by decide) ?_
                                              show Steps p.tables e below (T200.setTop (mkF m 602 #[.val (.int x0), .val (.int x1), .val (.int x2), .val (.long x3), .second, .val (.int x4), .val (.int x5), .val (.int f0), .val (.int f1), .val (.int f2), .val (.int f3), .val (.int f4), .val (.int (x4 &&& (3 : Int32))), .val (.ref pp), .val (.int sz), .val (.ref b60), .val (.ref b100), .val (.int z5), .val (.int ps), .val (.int (0 : Int32)), .val (.int ((x4.toUInt32 >>> ((2 : Int32) &&& 31).toUInt32).toInt32)), .val (.ref b200)] [])) _
                                              refine XS.iload X200.here hx rfl (hb hby at_602) rfl ?_
                                              show Steps p.tables e below (T200.setTop (mkF m 604 #[.val (.int x0), .val (.int x1), .val (.int x2), .val (.long x3), .second, .val (.int x4), .val (.int x5), .val (.int f0), .val (.int f1), .val (.int f2), .val (.int f3), .val (.int f4), .val (.int (x4 &&& (3 : Int32))), .val (.ref pp), .val (.int sz), .val (.ref b60), .val (.ref b100), .val (.int z5), .val (.int ps), .val (.int (0 : Int32)), .val (.int ((x4.toUInt32 >>> ((2 : Int32) &&& 31).toUInt32).toInt32)), .val (.ref b200)] [(.int z5)])) _
                                              refine XS.ifYes X200.here hx rfl (pc0 := 604) (pc' := 618) rfl (hb hby at_604) rfl ((if0 _ _).trans (flt hc181).2.2.2) (by decide) (by decide) ?_
                                              show Steps p.tables e below (T200.setTop (mkF m 618 #[.val (.int x0), .val (.int x1), .val (.int x2), .val (.long x3), .second, .val (.int x4), .val (.int x5), .val (.int f0), .val (.int f1), .val (.int f2), .val (.int f3), .val (.int f4), .val (.int (x4 &&& (3 : Int32))), .val (.ref pp), .val (.int sz), .val (.ref b60), .val (.ref b100), .val (.int z5), .val (.int ps), .val (.int (0 : Int32)), .val (.int ((x4.toUInt32 >>> ((2 : Int32) &&& 31).toUInt32).toInt32)), .val (.ref b200)] [])) _
                                              refine XS.aload X200.here hx rfl (hb hby at_618) rfl rfl ?_
                                              show Steps p.tables e below (T200.setTop (mkF m 620 #[.val (.int x0), .val (.int x1), .val (.int x2), .val (.long x3), .second, .val (.int x4), .val (.int x5), .val (.int f0), .val (.int f1), .val (.int f2), .val (.int f3), .val (.int f4), .val (.int (x4 &&& (3 : Int32))), .val (.ref pp), .val (.int sz), .val (.ref b60), .val (.ref b100), .val (.int z5), .val (.int ps), .val (.int (0 : Int32)), .val (.int ((x4.toUInt32 >>> ((2 : Int32) &&& 31).toUInt32).toInt32)), .val (.ref b200)] [(.ref b100)])) _
                                              refine X200.arraylength hx Ar204.1 (State.isArrayOf_alike hZ.alike Ar204.2.1) (g := (mkF m 620 #[.val (.int x0), .val (.int x1), .val (.int x2), .val (.long x3), .second, .val (.int x4), .val (.int x5), .val (.int f0), .val (.int f1), .val (.int f2), .val (.int f3), .val (.int f4), .val (.int (x4 &&& (3 : Int32))), .val (.ref pp), .val (.int sz), .val (.ref b60), .val (.ref b100), .val (.int z5), .val (.int ps), .val (.int (0 : Int32)), .val (.int ((x4.toUInt32 >>> ((2 : Int32) &&& 31).toUInt32).toInt32)), .val (.ref b200)] [(.ref b100)])) rfl rfl (hb hby at_620) _ ?_
                                              rw [len_of S204 M204]
                                              show Steps p.tables e below (T200.setTop (mkF m 621 #[.val (.int x0), .val (.int x1), .val (.int x2), .val (.long x3), .second, .val (.int x4), .val (.int x5), .val (.int f0), .val (.int f1), .val (.int f2), .val (.int f3), .val (.int f4), .val (.int (x4 &&& (3 : Int32))), .val (.ref pp), .val (.int sz), .val (.ref b60), .val (.ref b100), .val (.int z5), .val (.int ps), .val (.int (0 : Int32)), .val (.int ((x4.toUInt32 >>> ((2 : Int32) &&& 31).toUInt32).toInt32)), .val (.ref b200)] [(.int z5)])) _
                                              refine XS.iload X200.here hx rfl (hb hby at_621) rfl ?_
                                              show Steps p.tables e below (T200.setTop (mkF m 623 #[.val (.int x0), .val (.int x1), .val (.int x2), .val (.long x3), .second, .val (.int x4), .val (.int x5), .val (.int f0), .val (.int f1), .val (.int f2), .val (.int f3), .val (.int f4), .val (.int (x4 &&& (3 : Int32))), .val (.ref pp), .val (.int sz), .val (.ref b60), .val (.ref b100), .val (.int z5), .val (.int ps), .val (.int (0 : Int32)), .val (.int ((x4.toUInt32 >>> ((2 : Int32) &&& 31).toUInt32).toInt32)), .val (.ref b200)] [(.int z5), (.int z5)])) _
                                              refine XS.icmpNo X200.here hx rfl (hb hby at_623) rfl (teq (rfl : z5 = z5)).2 ?_
                                              show Steps p.tables e below (T200.setTop (mkF m 626 #[.val (.int x0), .val (.int x1), .val (.int x2), .val (.long x3), .second, .val (.int x4), .val (.int x5), .val (.int f0), .val (.int f1), .val (.int f2), .val (.int f3), .val (.int f4), .val (.int (x4 &&& (3 : Int32))), .val (.ref pp), .val (.int sz), .val (.ref b60), .val (.ref b100), .val (.int z5), .val (.int ps), .val (.int (0 : Int32)), .val (.int ((x4.toUInt32 >>> ((2 : Int32) &&& 31).toUInt32).toInt32)), .val (.ref b200)] [])) _
                                              refine XS.iconst X200.here hx rfl (hb hby at_626) ?_
                                              show Steps p.tables e below (T200.setTop (mkF m 627 #[.val (.int x0), .val (.int x1), .val (.int x2), .val (.long x3), .second, .val (.int x4), .val (.int x5), .val (.int f0), .val (.int f1), .val (.int f2), .val (.int f3), .val (.int f4), .val (.int (x4 &&& (3 : Int32))), .val (.ref pp), .val (.int sz), .val (.ref b60), .val (.ref b100), .val (.int z5), .val (.int ps), .val (.int (0 : Int32)), .val (.int ((x4.toUInt32 >>> ((2 : Int32) &&& 31).toUInt32).toInt32)), .val (.ref b200)] [(.int (1 : Int32))])) _
                                              refine XS.goto X200.here hx rfl (pc0 := 627) (pc' := 631) rfl (hb hby at_627) (by decide) (by decide) ?_
                                              show Steps p.tables e below (T200.setTop (mkF m 631 #[.val (.int x0), .val (.int x1), .val (.int x2), .val (.long x3), .second, .val (.int x4), .val (.int x5), .val (.int f0), .val (.int f1), .val (.int f2), .val (.int f3), .val (.int f4), .val (.int (x4 &&& (3 : Int32))), .val (.ref pp), .val (.int sz), .val (.ref b60), .val (.ref b100), .val (.int z5), .val (.int ps), .val (.int (0 : Int32)), .val (.int ((x4.toUInt32 >>> ((2 : Int32) &&& 31).toUInt32).toInt32)), .val (.ref b200)] [(.int (1 : Int32))])) _
                                              exact retN X200 hx (t := .boolean) Bd.returns (by simp) (hb hby at_631) hr
                                            · show own_Q_own_law Z x0 x1 x2 x3 x4 x5 h0 n0 _ T200.heap _
                                              exact ⟨rfl, N200⟩
set_option maxRecDepth 65536 in
set_option maxHeartbeats 40000000 in
theorem own_comes_1 {Post : Tables → Env → Array Value → State → Outcome → State → Prop} (hpost : ∀ tb e args s v u, (limb_1_1.after args s (.returned v) u = true ∧ limb_1_2.after args s (.returned v) u = true ∧ True) → FrameEnd s (.returned v) u (Jvm.fieldLocs frame_1_writes args s ++ Jvm.arrayLocs frame_1_arrays args s ++ Jvm.staticLocs frame_1_statics s) 24 1408 → Post tb e args s (.returned v) u) :
    ArmFor flags0 classFile x code maxLocals ret World_1 tables_1 room_1 Calls_1 rest_1 Pre_1 Post := by
  intro l hfl _ _ p e ha hc hk s m args below hf hA hF happ hP
  obtain ⟨hcalls, hrest, hpre⟩ := hP
  obtain ⟨-, -, -, hnamed, -, -, -, hat⟩ := (Spec.applies_iff hf).mp happ
  obtain ⟨hg, hn⟩ := and_e (Cond.before_iff.mp (show (Jvm.Cond.and given_1 narrow_1).before args s = true from hpre))
  obtain ⟨g1, g2⟩ := and_e hg
  obtain ⟨g3, g4⟩ := and_e g2
  obtain ⟨g5, g6⟩ := and_e g4
  obtain ⟨g7, g8⟩ := and_e g6
  obtain ⟨g9, g10⟩ := and_e g8
  obtain ⟨g11, g12⟩ := and_e g10
  obtain ⟨w0, w1, w2, w3, w4, w5, rfl⟩ : ∃ w0 w1 w2 w3 w4 w5 : Value, args = #[w0, w1, w2, w3, w4, w5] := by
    have hs : args.size = 6 := by simpa [Cond.value, given_1] using g1
    obtain ⟨L⟩ := args
    match L, hs with
    | [w0, w1, w2, w3, w4, w5], _ => exact ⟨w0, w1, w2, w3, w4, w5, rfl⟩
  have hw := fun d (hd : d ∈ tables_1) => atoms_spec (ws := Jvm.Cond.code x code maxLocals ret :: tables_1) hat d (List.mem_cons_of_mem _ hd)
  have hfit : Fit s := fun {y c} hc i hi => by
    obtain ⟨ha, rfl⟩ := Array.getElem?_eq_some_iff.mp hc
    have q := List.all_eq_true.mp ((Array.all_eq_true_iff_forall_mem.mp hF) _ (Array.getElem_mem ha)) i (List.mem_range.mpr hi)
    simpa [Array.getElem?_eq_getElem hi] using q
  obtain ⟨i0, ei0⟩ := is_v g3
  obtain rfl : w0 = (.int i0) := Option.some.inj ei0
  obtain ⟨i1, ei1⟩ := is_v g5
  obtain rfl : w1 = (.int i1) := Option.some.inj ei1
  obtain ⟨i2, ei2⟩ := is_v g7
  obtain rfl : w2 = (.int i2) := Option.some.inj ei2
  obtain ⟨i3, ei3⟩ := isL_v g9
  obtain rfl : w3 = (.long i3) := Option.some.inj ei3
  obtain ⟨i4, ei4⟩ := is_v g11
  obtain rfl : w4 = (.int i4) := Option.some.inj ei4
  obtain ⟨i5, ei5⟩ := is_v g12
  obtain rfl : w5 = (.int i5) := Option.some.inj ei5
  obtain ⟨n, o, h1, h2, h3, _, L, rfl, ⟨rfl, N⟩, hq⟩ := own_law l s _ hw tables_1 i0 i1 i2 i3 i4 i5  s.heap s.heap.size (Nat.le_refl _)  p e ha hc hk s m _ below hf ((Spec.applies_iff_loose hf).mp happ).1 ⟨rfl, State.Warmed39.refl s, rfl⟩ trivial
  refine ⟨n, _, h1, h2, h3, hpost _ _ _ _ _ _ ⟨Cond.after_iff.mpr rfl, Cond.after_iff.mpr (eq_i res_at (Term.int_eval (1)) rfl), trivial⟩ ⟨hq.1, hq.2.1, (hq.2.2.sift fun y hy => Or.inr (N y hy)).mono (by decide) (by decide)⟩⟩
theorem main_1_1 : Claimed_1_1 := own_comes_1 fun _ _ _ _ _ _ h hF => ⟨h.1, hF⟩
theorem main_1_2 : Claimed_1_2 := own_comes_1 fun _ _ _ _ _ _ h hF => ⟨h.2.1, hF⟩
end Jvm.Pilot.@@N@@
namespace Jvm.Pilot.@@N@@
open Jvm Jvm.ClassFile Sem Op Lib Jvm.Free Jvm.Stand Jvm.Pilot.@@N@@.Jvm.D
/-! MADE BY PROGRAM (witnessworld.py) out of the Statement's table words and the real class files: 12 classes; the members and pool entries that the words name. The judged class is class 1, her method 4. -/
namespace start1
open Jvm.ClassFile
def u (s : String) : CpInfo := .utf8 (stringToUtf16 s)
/-- a pool by its gaps: so many unusable entries, then the entry; so many at the end -/
def gap : Nat → List CpInfo → List CpInfo
  | 0, r => r
  | n + 1, r => .unusable :: gap n r
def poolList (es : List (Nat × CpInfo)) (last : Nat) : List CpInfo := es.foldr (fun e r => gap e.1 (e.2 :: r)) (gap last [])
def pool (es : List (Nat × CpInfo)) (last : Nat) : Array CpInfo := ⟨poolList es last⟩
def fileOf (pool : Array CpInfo) (this : Nat) (attrs : Array Attribute := #[]) (ms : Array MethodInfo := #[]) (fl : Nat := 33) (sup : Nat := 0) (ifs : Array Nat := #[]) (fds : Array FieldInfo := #[]) : ClassFile where
  minorVersion := 0
  majorVersion := 65
  constantPool := pool
  accessFlags := fl
  thisClass := this
  superClass := sup
  interfaces := ifs
  fields := fds
  methods := ms
  attributes := attrs
def plain (name : String) (sup : Option ClassId) : Class where
  name := name
  kind := .ordinary
  loader := none
  accessFlags := 33
  super := sup
  interfaces := #[]
  cf := none
  fields := #[]
  methods := #[]
  instanceTypes := #[]
  staticTypes := #[]
  resolved := #[]
  callSites := []
  init := .initialized
  statics := none
  mirror := none

def pool0 : Array CpInfo := pool [(5, u "<init>"), (0, u "()V"), (1, .class_ 10), (1, u "java/lang/Object"), (85, u "clone"), (0, u "()Ljava/lang/Object;")] 26

def k0c0 : Code := { maxStack := 0, maxLocals := 1, code := object_method_1_code, exceptionTable := #[], attributes := #[] }
def k0m0 : Method := { name := "<init>", desc := "()V", sig := { parameters := [], returnType := none }, accessFlags := 1, code := some k0c0 }
def k0m1 : Method := { name := "clone", desc := "()Ljava/lang/Object;", sig := { parameters := [], returnType := some (.object "java/lang/Object") }, accessFlags := 260, code := none }
/-- java/lang/Object -/
def k0 : Class := { plain "java/lang/Object" none with
  accessFlags := 33
  interfaces := #[]
  cf := some (fileOf pool0 8 #[] #[{ accessFlags := 1, nameIndex := 5, descriptorIndex := 6, attributes := #[] }, { accessFlags := 260, nameIndex := 96, descriptorIndex := 97, attributes := #[] }] 33 0 #[] #[])
  fields := #[]
  methods := #[k0m0, k0m1]
  instanceTypes := #[]
  staticTypes := #[]
  resolved := Array.replicate 124 none
  statics := none }

def pool1 : Array CpInfo := pool [(2, .class_ 4), (0, .nameAndType 5 6), (0, u "java/lang/Object"), (0, u "<init>"), (0, u "()V"), (0, .methodref 8 9), (0, .class_ 10), (0, .nameAndType 11 12), (0, u "com/example/vigilant_consumer/vigilantconsumer/ProtocolWriterToByteArrayPinLaw"), (0, u "int32At"), (0, u "([BII)Z"), (0, .class_ 14), (0, u "com/example/vigilant_consumer/vigilantconsumer/ProtocolWriter"), (0, .methodref 13 3), (0, .methodref 13 17), (0, .nameAndType 18 19), (0, u "int8"), (0, u "(I)V"), (0, .methodref 13 21), (0, .nameAndType 22 19), (0, u "int16"), (0, .methodref 13 24), (0, .nameAndType 25 19), (0, u "int32"), (0, .methodref 13 27), (0, .nameAndType 28 29), (0, u "int64"), (0, u "(J)V"), (0, .methodref 13 31), (0, .nameAndType 32 33), (0, u "bytes"), (0, u "([B)V"), (0, .methodref 13 35), (0, .nameAndType 36 37), (0, u "toByteArray"), (0, u "()[B"), (0, .methodref 8 39), (0, .nameAndType 40 12), (0, u "int16At"), (0, .methodref 8 42), (0, .nameAndType 43 44), (0, u "int64At"), (0, u "([BIJ)Z"), (3, u "law"), (0, u "(IIIJII)Z")] 4

def k1m0 : Method := { name := "<init>", desc := "()V", sig := { parameters := [], returnType := none }, accessFlags := 1, code := none }
def k1c1 : Code := { maxStack := 3, maxLocals := 3, code := method_2_code, exceptionTable := #[], attributes := #[] }
def k1m1 : Method := { name := "int16At", desc := "([BII)Z", sig := { parameters := [(.array .byte), .int, .int], returnType := some .boolean }, accessFlags := 10, code := some k1c1 }
def k1c2 : Code := { maxStack := 3, maxLocals := 3, code := method_3_code, exceptionTable := #[], attributes := #[] }
def k1m2 : Method := { name := "int32At", desc := "([BII)Z", sig := { parameters := [(.array .byte), .int, .int], returnType := some .boolean }, accessFlags := 10, code := some k1c2 }
def k1c3 : Code := { maxStack := 5, maxLocals := 4, code := method_4_code, exceptionTable := #[], attributes := #[] }
def k1m3 : Method := { name := "int64At", desc := "([BIJ)Z", sig := { parameters := [(.array .byte), .int, .long], returnType := some .boolean }, accessFlags := 10, code := some k1c3 }
def k1c4 : Code := { maxStack := 4, maxLocals := 22, code := code, exceptionTable := #[], attributes := #[] }
def k1m4 : Method := { name := "law", desc := "(IIIJII)Z", sig := { parameters := [.int, .int, .int, .long, .int, .int], returnType := some .boolean }, accessFlags := 9, code := some k1c4 }
/-- com/example/vigilant_consumer/vigilantconsumer/ProtocolWriterToByteArrayPinLaw -/
def k1 : Class := { plain "com/example/vigilant_consumer/vigilantconsumer/ProtocolWriterToByteArrayPinLaw" (some 0) with
  accessFlags := 49
  interfaces := #[]
  cf := some (fileOf pool1 8 #[] #[{ accessFlags := 1, nameIndex := 5, descriptorIndex := 6, attributes := #[] }, { accessFlags := 10, nameIndex := 40, descriptorIndex := 12, attributes := #[] }, { accessFlags := 10, nameIndex := 11, descriptorIndex := 12, attributes := #[] }, { accessFlags := 10, nameIndex := 43, descriptorIndex := 44, attributes := #[] }, { accessFlags := 9, nameIndex := 48, descriptorIndex := 49, attributes := #[] }] 49 2 #[] #[])
  fields := #[]
  methods := #[k1m0, k1m1, k1m2, k1m3, k1m4]
  instanceTypes := #[]
  staticTypes := #[]
  resolved := Array.replicate 54 none
  statics := none }

def pool2 : Array CpInfo := pool [(1, .methodref 2 3), (0, .class_ 4), (0, .nameAndType 5 6), (0, u "java/lang/Object"), (0, u "<init>"), (0, u "()V"), (0, .fieldref 8 9), (0, .class_ 10), (0, .nameAndType 11 12), (0, u "com/example/vigilant_consumer/vigilantconsumer/ProtocolWriter"), (0, u "bytes"), (0, u "[B"), (0, .methodref 8 14), (0, .nameAndType 15 16), (0, u "ensure"), (0, u "(I)V"), (0, .fieldref 8 18), (0, .nameAndType 19 20), (0, u "length"), (0, u "I"), (25, u "int16"), (0, .methodref 8 48), (0, .nameAndType 49 50), (0, u "append"), (0, u "([B)V"), (3, .methodref 8 55), (0, .nameAndType 56 16), (0, u "int32"), (83, .methodref 141 142), (0, .class_ 143), (0, .nameAndType 144 145), (0, u "java/util/Arrays"), (0, u "copyOf"), (0, u "([BI)[B"), (14, .methodref 161 162), (0, .class_ 163), (0, .nameAndType 164 165), (0, u "java/lang/System"), (0, u "arraycopy"), (0, u "(Ljava/lang/Object;ILjava/lang/Object;II)V"), (0, .methodref 167 168), (0, .class_ 169), (0, .nameAndType 170 171), (0, u "java/lang/Math"), (0, u "max"), (0, u "(II)I"), (5, u "int8"), (1, u "int64"), (0, u "(J)V"), (6, u "toByteArray"), (0, u "()[B")] 34

def k2c0 : Code := { maxStack := 2, maxLocals := 1, code := prog_49_method_1_code, exceptionTable := #[], attributes := #[] }
def k2m0 : Method := { name := "<init>", desc := "()V", sig := { parameters := [], returnType := none }, accessFlags := 0, code := some k2c0 }
def k2c1 : Code := { maxStack := 5, maxLocals := 2, code := prog_49_method_2_code, exceptionTable := #[], attributes := #[] }
def k2m1 : Method := { name := "int8", desc := "(I)V", sig := { parameters := [.int], returnType := none }, accessFlags := 0, code := some k2c1 }
def k2c2 : Code := { maxStack := 5, maxLocals := 2, code := prog_49_method_3_code, exceptionTable := #[], attributes := #[] }
def k2m2 : Method := { name := "int16", desc := "(I)V", sig := { parameters := [.int], returnType := none }, accessFlags := 0, code := some k2c2 }
def k2c3 : Code := { maxStack := 5, maxLocals := 3, code := prog_49_method_4_code, exceptionTable := #[], attributes := #[] }
def k2m3 : Method := { name := "int32", desc := "(I)V", sig := { parameters := [.int], returnType := none }, accessFlags := 0, code := some k2c3 }
def k2c4 : Code := { maxStack := 5, maxLocals := 4, code := prog_49_method_5_code, exceptionTable := #[], attributes := #[] }
def k2m4 : Method := { name := "int64", desc := "(J)V", sig := { parameters := [.long], returnType := none }, accessFlags := 0, code := some k2c4 }
def k2c5 : Code := { maxStack := 2, maxLocals := 2, code := prog_49_method_8_code, exceptionTable := #[], attributes := #[] }
def k2m5 : Method := { name := "bytes", desc := "([B)V", sig := { parameters := [(.array .byte)], returnType := none }, accessFlags := 0, code := some k2c5 }
def k2c6 : Code := { maxStack := 2, maxLocals := 1, code := prog_49_method_11_code, exceptionTable := #[], attributes := #[] }
def k2m6 : Method := { name := "toByteArray", desc := "()[B", sig := { parameters := [], returnType := some (.array .byte) }, accessFlags := 0, code := some k2c6 }
def k2c7 : Code := { maxStack := 5, maxLocals := 2, code := prog_49_method_13_code, exceptionTable := #[], attributes := #[] }
def k2m7 : Method := { name := "append", desc := "([B)V", sig := { parameters := [(.array .byte)], returnType := none }, accessFlags := 2, code := some k2c7 }
def k2c8 : Code := { maxStack := 5, maxLocals := 2, code := prog_49_method_14_code, exceptionTable := #[], attributes := #[] }
def k2m8 : Method := { name := "ensure", desc := "(I)V", sig := { parameters := [.int], returnType := none }, accessFlags := 2, code := some k2c8 }
/-- com/example/vigilant_consumer/vigilantconsumer/ProtocolWriter -/
def k2 : Class := { plain "com/example/vigilant_consumer/vigilantconsumer/ProtocolWriter" (some 0) with
  accessFlags := 32
  interfaces := #[]
  cf := some (fileOf pool2 8 #[] #[{ accessFlags := 0, nameIndex := 5, descriptorIndex := 6, attributes := #[] }, { accessFlags := 0, nameIndex := 177, descriptorIndex := 16, attributes := #[] }, { accessFlags := 0, nameIndex := 46, descriptorIndex := 16, attributes := #[] }, { accessFlags := 0, nameIndex := 56, descriptorIndex := 16, attributes := #[] }, { accessFlags := 0, nameIndex := 179, descriptorIndex := 180, attributes := #[] }, { accessFlags := 0, nameIndex := 11, descriptorIndex := 50, attributes := #[] }, { accessFlags := 0, nameIndex := 187, descriptorIndex := 188, attributes := #[] }, { accessFlags := 2, nameIndex := 49, descriptorIndex := 50, attributes := #[] }, { accessFlags := 2, nameIndex := 15, descriptorIndex := 16, attributes := #[] }] 32 2 #[] #[{ accessFlags := 2, nameIndex := 11, descriptorIndex := 12, attributes := #[] }, { accessFlags := 2, nameIndex := 19, descriptorIndex := 20, attributes := #[] }])
  fields := #[{ name := "bytes", type := (.array .byte), accessFlags := 2, slot := 0, constantValue := 0 }, { name := "length", type := .int, accessFlags := 2, slot := 1, constantValue := 0 }]
  methods := #[k2m0, k2m1, k2m2, k2m3, k2m4, k2m5, k2m6, k2m7, k2m8]
  instanceTypes := #[(.array .byte), .int]
  staticTypes := #[]
  resolved := Array.replicate 223 none
  statics := none }

def pool3 : Array CpInfo := pool [(2, .class_ 4), (1, u "java/lang/Object"), (0, u "<init>"), (0, u "()V"), (7, .class_ 16), (1, u "java/util/Arrays"), (57, .class_ 76), (1, u "java/util/Arrays$NaturalOrder"), (32, u "()Ljava/lang/Object;"), (3, .class_ 115), (1, u "java/util/Arrays$LegacyMergeSort"), (1, u "Z"), (10, .nameAndType 129 109), (0, u "clone"), (20, .methodref 151 152), (0, .class_ 153), (0, .nameAndType 154 155), (0, u "java/lang/System"), (0, u "arraycopy"), (0, u "(Ljava/lang/Object;ILjava/lang/Object;II)V"), (146, u "copyOf"), (1, .methodref 305 306), (0, .class_ 307), (0, .nameAndType 308 309), (0, u "java/lang/Math"), (0, u "min"), (0, u "(II)I"), (0, .methodref 311 128), (0, .class_ 312), (0, u "[B"), (62, .class_ 376), (0, u "java/util/Arrays$ArrayList"), (68, u "$assertionsDisabled"), (269, u "MIN_ARRAY_SORT_GRAN"), (0, u "I"), (2, u "INSERTIONSORT_THRESHOLD"), (149, u "([BI)[B"), (105, .class_ 976), (0, u "java/util/Arrays$ArrayItr")] 52

def k3m0 : Method := { name := "<init>", desc := "()V", sig := { parameters := [], returnType := none }, accessFlags := 2, code := none }
def k3c1 : Code := { maxStack := 6, maxLocals := 3, code := jdk_65_method_121_code, exceptionTable := #[], attributes := #[] }
def k3m1 : Method := { name := "copyOf", desc := "([BI)[B", sig := { parameters := [(.array .byte), .int], returnType := some (.array .byte) }, accessFlags := 9, code := some k3c1 }
/-- java/util/Arrays -/
def k3 : Class := { plain "java/util/Arrays" (some 0) with
  accessFlags := 49
  interfaces := #[]
  cf := some (fileOf pool3 14 #[.nestMembers #[975, 375, 113, 74]] #[{ accessFlags := 2, nameIndex := 5, descriptorIndex := 6, attributes := #[] }, { accessFlags := 9, nameIndex := 302, descriptorIndex := 869, attributes := #[] }] 49 2 #[] #[{ accessFlags := 26, nameIndex := 715, descriptorIndex := 716, attributes := #[] }, { accessFlags := 26, nameIndex := 719, descriptorIndex := 716, attributes := #[] }, { accessFlags := 4120, nameIndex := 445, descriptorIndex := 117, attributes := #[] }])
  fields := #[{ name := "MIN_ARRAY_SORT_GRAN", type := .int, accessFlags := 26, slot := 0, constantValue := 0 }, { name := "INSERTIONSORT_THRESHOLD", type := .int, accessFlags := 26, slot := 1, constantValue := 0 }, { name := "$assertionsDisabled", type := .boolean, accessFlags := 4120, slot := 2, constantValue := 0 }]
  methods := #[k3m0, k3m1]
  instanceTypes := #[]
  staticTypes := #[.int, .int, .boolean]
  resolved := Array.replicate 1029 none
  statics := none }

def pool4 : Array CpInfo := pool [(1, .class_ 2), (0, u "java/lang/Math"), (1, .class_ 6), (1, u "java/lang/Object"), (0, u "<init>"), (0, u "()V"), (89, .class_ 100), (1, u "java/lang/Math$RandomNumberGeneratorHolder"), (71, u "negativeZeroFloatBits"), (0, u "J"), (2, u "negativeZeroDoubleBits"), (21, u "max"), (2, u "min"), (43, u "$assertionsDisabled"), (0, u "Z"), (88, u "(II)I"), (2, u "twoToTheDoubleScaleDown"), (0, u "D"), (4, u "twoToTheDoubleScaleUp"), (9, u "E"), (3, u "PI"), (2, u "TAU"), (2, u "DEGREES_TO_RADIANS"), (0, u "RADIANS_TO_DEGREES")] 94

def k4m0 : Method := { name := "<init>", desc := "()V", sig := { parameters := [], returnType := none }, accessFlags := 2, code := none }
def k4c1 : Code := { maxStack := 2, maxLocals := 2, code := jdk_29_method_65_code, exceptionTable := #[], attributes := #[] }
def k4m1 : Method := { name := "max", desc := "(II)I", sig := { parameters := [.int, .int], returnType := some .int }, accessFlags := 9, code := some k4c1 }
def k4c2 : Code := { maxStack := 2, maxLocals := 2, code := jdk_29_method_69_code, exceptionTable := #[], attributes := #[] }
def k4m2 : Method := { name := "min", desc := "(II)I", sig := { parameters := [.int, .int], returnType := some .int }, accessFlags := 9, code := some k4c2 }
/-- java/lang/Math -/
def k4 : Class := { plain "java/lang/Math" (some 0) with
  accessFlags := 49
  interfaces := #[]
  cf := some (fileOf pool4 1 #[.nestMembers #[98]] #[{ accessFlags := 2, nameIndex := 7, descriptorIndex := 8, attributes := #[] }, { accessFlags := 9, nameIndex := 198, descriptorIndex := 335, attributes := #[] }, { accessFlags := 9, nameIndex := 201, descriptorIndex := 335, attributes := #[] }] 49 4 #[] #[{ accessFlags := 25, nameIndex := 354, descriptorIndex := 339, attributes := #[] }, { accessFlags := 25, nameIndex := 358, descriptorIndex := 339, attributes := #[] }, { accessFlags := 25, nameIndex := 361, descriptorIndex := 339, attributes := #[] }, { accessFlags := 26, nameIndex := 364, descriptorIndex := 339, attributes := #[] }, { accessFlags := 26, nameIndex := 365, descriptorIndex := 339, attributes := #[] }, { accessFlags := 26, nameIndex := 172, descriptorIndex := 173, attributes := #[] }, { accessFlags := 26, nameIndex := 176, descriptorIndex := 173, attributes := #[] }, { accessFlags := 8, nameIndex := 344, descriptorIndex := 339, attributes := #[] }, { accessFlags := 8, nameIndex := 338, descriptorIndex := 339, attributes := #[] }, { accessFlags := 4120, nameIndex := 245, descriptorIndex := 246, attributes := #[] }])
  fields := #[{ name := "E", type := .double, accessFlags := 25, slot := 0, constantValue := 0 }, { name := "PI", type := .double, accessFlags := 25, slot := 1, constantValue := 0 }, { name := "TAU", type := .double, accessFlags := 25, slot := 2, constantValue := 0 }, { name := "DEGREES_TO_RADIANS", type := .double, accessFlags := 26, slot := 3, constantValue := 0 }, { name := "RADIANS_TO_DEGREES", type := .double, accessFlags := 26, slot := 4, constantValue := 0 }, { name := "negativeZeroFloatBits", type := .long, accessFlags := 26, slot := 5, constantValue := 0 }, { name := "negativeZeroDoubleBits", type := .long, accessFlags := 26, slot := 6, constantValue := 0 }, { name := "twoToTheDoubleScaleUp", type := .double, accessFlags := 8, slot := 7, constantValue := 0 }, { name := "twoToTheDoubleScaleDown", type := .double, accessFlags := 8, slot := 8, constantValue := 0 }, { name := "$assertionsDisabled", type := .boolean, accessFlags := 4120, slot := 9, constantValue := 0 }]
  methods := #[k4m0, k4m1, k4m2]
  instanceTypes := #[]
  staticTypes := #[.double, .double, .double, .double, .double, .long, .long, .double, .double, .boolean]
  resolved := Array.replicate 460 none
  statics := none }

def pool5 : Array CpInfo := pool [(2, .class_ 4), (1, u "java/lang/Object"), (0, u "<init>"), (0, u "()V"), (1, .class_ 10), (1, u "java/lang/System"), (0, u "allowSecurityManager"), (0, u "I"), (16, u "cons"), (0, u "Ljava/io/Console;"), (77, .class_ 110), (1, u "java/lang/System$CallersHolder"), (43, u "initialErrStream"), (0, u "Ljava/io/PrintStream;"), (19, u "security"), (0, u "Ljava/lang/SecurityManager;"), (31, .class_ 209), (0, u "java/lang/System$1"), (7, u "props"), (0, u "Ljava/util/Properties;"), (2, u "lineSeparator"), (0, u "Ljava/lang/String;"), (96, .class_ 321), (1, u "java/lang/System$LoggerFinder"), (5, .class_ 328), (0, u "java/lang/System$Logger"), (67, u "err"), (2, u "out"), (91, u "notSupportedJnuEncoding"), (15, u "in"), (17, u "initialIn"), (0, u "Ljava/io/InputStream;"), (35, u "bootLayer"), (0, u "Ljava/lang/ModuleLayer;"), (99, .class_ 664), (0, u "java/lang/System$2"), (9, u "NEVER"), (2, u "MAYBE"), (49, u "arraycopy"), (0, u "(Ljava/lang/Object;ILjava/lang/Object;II)V"), (72, .class_ 802), (0, u "java/lang/System$Logger$Level")] 31

def k5m0 : Method := { name := "<init>", desc := "()V", sig := { parameters := [], returnType := none }, accessFlags := 2, code := none }
def k5m1 : Method := { name := "arraycopy", desc := "(Ljava/lang/Object;ILjava/lang/Object;II)V", sig := { parameters := [(.object "java/lang/Object"), .int, (.object "java/lang/Object"), .int, .int], returnType := none }, accessFlags := 265, code := none }
/-- java/lang/System -/
def k5 : Class := { plain "java/lang/System" (some 0) with
  accessFlags := 49
  interfaces := #[]
  cf := some (fileOf pool5 8 #[.nestMembers #[319, 327, 801, 108, 663, 208]] #[{ accessFlags := 2, nameIndex := 5, descriptorIndex := 6, attributes := #[] }, { accessFlags := 265, nameIndex := 727, descriptorIndex := 728, attributes := #[] }] 49 2 #[] #[{ accessFlags := 25, nameIndex := 507, descriptorIndex := 526, attributes := #[] }, { accessFlags := 25, nameIndex := 399, descriptorIndex := 155, attributes := #[] }, { accessFlags := 25, nameIndex := 396, descriptorIndex := 155, attributes := #[] }, { accessFlags := 10, nameIndex := 525, descriptorIndex := 526, attributes := #[] }, { accessFlags := 26, nameIndex := 674, descriptorIndex := 12, attributes := #[] }, { accessFlags := 26, nameIndex := 677, descriptorIndex := 12, attributes := #[] }, { accessFlags := 10, nameIndex := 11, descriptorIndex := 12, attributes := #[] }, { accessFlags := 74, nameIndex := 175, descriptorIndex := 176, attributes := #[] }, { accessFlags := 10, nameIndex := 491, descriptorIndex := 222, attributes := #[] }, { accessFlags := 74, nameIndex := 29, descriptorIndex := 30, attributes := #[] }, { accessFlags := 74, nameIndex := 154, descriptorIndex := 155, attributes := #[] }, { accessFlags := 10, nameIndex := 217, descriptorIndex := 218, attributes := #[] }, { accessFlags := 10, nameIndex := 221, descriptorIndex := 222, attributes := #[] }, { accessFlags := 8, nameIndex := 562, descriptorIndex := 563, attributes := #[] }])
  fields := #[{ name := "in", type := (.object "java/io/InputStream"), accessFlags := 25, slot := 0, constantValue := 0 }, { name := "out", type := (.object "java/io/PrintStream"), accessFlags := 25, slot := 1, constantValue := 0 }, { name := "err", type := (.object "java/io/PrintStream"), accessFlags := 25, slot := 2, constantValue := 0 }, { name := "initialIn", type := (.object "java/io/InputStream"), accessFlags := 10, slot := 3, constantValue := 0 }, { name := "NEVER", type := .int, accessFlags := 26, slot := 4, constantValue := 0 }, { name := "MAYBE", type := .int, accessFlags := 26, slot := 5, constantValue := 0 }, { name := "allowSecurityManager", type := .int, accessFlags := 10, slot := 6, constantValue := 0 }, { name := "security", type := (.object "java/lang/SecurityManager"), accessFlags := 74, slot := 7, constantValue := 0 }, { name := "notSupportedJnuEncoding", type := (.object "java/lang/String"), accessFlags := 10, slot := 8, constantValue := 0 }, { name := "cons", type := (.object "java/io/Console"), accessFlags := 74, slot := 9, constantValue := 0 }, { name := "initialErrStream", type := (.object "java/io/PrintStream"), accessFlags := 74, slot := 10, constantValue := 0 }, { name := "props", type := (.object "java/util/Properties"), accessFlags := 10, slot := 11, constantValue := 0 }, { name := "lineSeparator", type := (.object "java/lang/String"), accessFlags := 10, slot := 12, constantValue := 0 }, { name := "bootLayer", type := (.object "java/lang/ModuleLayer"), accessFlags := 8, slot := 13, constantValue := 0 }]
  methods := #[k5m0, k5m1]
  instanceTypes := #[]
  staticTypes := #[(.object "java/io/InputStream"), (.object "java/io/PrintStream"), (.object "java/io/PrintStream"), (.object "java/io/InputStream"), .int, .int, .int, (.object "java/lang/SecurityManager"), (.object "java/lang/String"), (.object "java/io/Console"), (.object "java/io/PrintStream"), (.object "java/util/Properties"), (.object "java/lang/String"), (.object "java/lang/ModuleLayer")]
  resolved := Array.replicate 834 none
  statics := none }

def pool6 : Array CpInfo := pool [(1, .class_ 2), (0, u "java/lang/Cloneable"), (0, .class_ 4), (0, u "java/lang/Object")] 2

/-- java/lang/Cloneable -/
def k6 : Class := { plain "java/lang/Cloneable" (some 0) with
  accessFlags := 1537
  interfaces := #[]
  cf := some (fileOf pool6 1 #[] #[] 1537 3 #[] #[])
  fields := #[]
  methods := #[]
  instanceTypes := #[]
  staticTypes := #[]
  resolved := Array.replicate 7 none
  statics := none }

def pool7 : Array CpInfo := pool [(1, u "java/io/Serializable"), (0, .class_ 1), (0, u "java/lang/Object"), (0, .class_ 3)] 3

/-- java/io/Serializable -/
def k7 : Class := { plain "java/io/Serializable" (some 0) with
  accessFlags := 1537
  interfaces := #[]
  cf := some (fileOf pool7 2 #[] #[] 1537 4 #[] #[])
  fields := #[]
  methods := #[]
  instanceTypes := #[]
  staticTypes := #[]
  resolved := Array.replicate 8 none
  statics := none }

/-- the primitive byte -/
def k8 : Class := { plain "byte" none with kind := .primitive 'B', accessFlags := 0x411 }
/-- [B -/
def k9 : Class := { plain "[B" (some 0) with kind := .array 8 .byte, interfaces := #[6, 7], accessFlags := 1041 }

/-- the primitive int -/
def k10 : Class := { plain "int" none with kind := .primitive 'I', accessFlags := 0x411 }
/-- [I -/
def k11 : Class := { plain "[I" (some 0) with kind := .array 10 .int, interfaces := #[6, 7], accessFlags := 1041 }

def heap : Heap := #[]
def classes : Array Class := #[k0, k1, k2, k3, k4, k5, k6, k7, k8, k9, k10, k11]
def interned : List (Array UInt16 × Addr) := []
def slotsUsed : Nat := 0
def theMethod : MethodId := ⟨1, 4⟩
def args0 : Array Value := #[.int 31, .int 5, .int 7, .long 9, .int 2, .int 66]
def aboutOver (below : List Frame) : State where
  vm := { classes := classes, interned := interned.toArray }
  heap := heap
  slotsUsed := slotsUsed
  threads := #[{ frames := .invoking theMethod args0 :: below }]
def below0 : List Frame := [.native { method := ⟨0, 0⟩, args := #[] }]
def about1 : State := aboutOver below0
def p0 : Program := .bare "" "" ""
def e0 : Env := launch0.env 0 0 0
theorem w_frames : about1.frames = Frame.invoking theMethod args0 :: below0 := rfl
set_option maxRecDepth 65536 in
theorem w_args : argsFit about1.vm theMethod args0 = true := by decide +kernel
set_option maxRecDepth 65536 in
theorem w_heap : heapFits about1 = true := by decide +kernel
set_option maxRecDepth 65536 in
theorem w_runnable : about1.curStatus? = some .runnable := by decide +kernel
set_option maxRecDepth 65536 in
theorem w_alone : about1.alone = true := by decide +kernel
set_option maxRecDepth 65536 in
theorem w_named : about1.methodNamed? x = some theMethod := by decide +kernel
set_option maxRecDepth 65536 in
theorem w_hears : about1.hears theMethod below0 = true := by decide +kernel
set_option maxRecDepth 65536 in
theorem w_ripe : about1.ripe theMethod args0 below0 = true := by decide +kernel
theorem w_running : about1.status = .running := rfl
set_option maxRecDepth 65536 in
theorem w_room : about1.hasRoom e0.platform room_1 = true :=
  launch0.hasRoom_least _ room_1 (by decide +kernel) (by decide +kernel) (by decide +kernel) (by decide +kernel) (by decide +kernel) (by decide +kernel)
theorem allAtoms_all (ts : List Jvm.Cond) (a : Array Jvm.Value) (st : Jvm.State) : (allAtoms ts).before a st = ts.all (fun c => c.before a st) := by
  induction ts with
  | nil => rfl
  | cons c t ih =>
    show (Jvm.Cond.and c (allAtoms t)).before a st = _
    rw [Jvm.Cond.before_and, ih, List.all_cons]
def words1 : List Jvm.Cond := Jvm.Cond.code x code maxLocals ret :: tables_1
/-- a 'code' word, met by the world's own term for the bytes: nothing is compared byte by byte -/
theorem code_word {y : MethodName} {bytes : ByteArray} {mx : Nat} {rt : Option FieldType} {a : Array Value} {s : State} {m : MethodId} {meth : Method} {c : Code} (h1 : s.methodNamed? y = some m) (h2 : s.vm.method? m = some meth) (h3 : meth.code = some c) (h4 : c.code = bytes)
    (h5 : (c.maxLocals == mx && c.exceptionTable.isEmpty && decide (c.maxStack ≤ mostOperands) && decide (meth.sig.returnType = rt) && !meth.locks && decide (parseMethodDescriptor y.desc = some meth.sig)) = true) : (Jvm.Cond.code y bytes mx rt).before a s = true := by
  simp only [Bool.and_eq_true, beq_iff_eq, Bool.not_eq_true', decide_eq_true_eq] at h5
  obtain ⟨⟨⟨⟨⟨g1, g2⟩, g3⟩, g4⟩, g5⟩, g6⟩ := h5
  simp [Cond.before, Cond.holds, Cond.value, h1, h2, h3, h4, g1, g2, g3, g4, g5, g6]
def isCode : Jvm.Cond → Bool
  | .code _ _ _ _ => true
  | _ => false
theorem all_split {L : List Jvm.Cond} {P : Jvm.Cond → Bool} (h1 : L.all (fun c => isCode c || P c) = true) (h2 : ∀ c ∈ L.filter isCode, P c = true) : L.all P = true := by
  refine List.all_eq_true.mpr fun c hc => ?_
  have h := List.all_eq_true.mp h1 c hc
  rcases Bool.eq_false_or_eq_true (isCode c) with hi | hi
  · exact h2 c (List.mem_filter.mpr ⟨hc, hi⟩)
  · simpa [hi] using h
set_option maxRecDepth 65536 in
theorem w_c0 : (Jvm.Cond.code x code maxLocals ret).before args0 about1 = true := code_word (m := ⟨1, 4⟩) (meth := k1m4) (c := k1c4) (by decide +kernel) rfl rfl rfl (by decide +kernel)
set_option maxRecDepth 65536 in
theorem w_c1 : (Jvm.Cond.code ({ cls := "com/example/vigilant_consumer/vigilantconsumer/ProtocolWriter", name := "<init>", desc := "()V" } : Jvm.MethodName) prog_49_method_1_code (1 : Nat) (Option.none : Option Jvm.ClassFile.FieldType)).before args0 about1 = true := code_word (m := ⟨2, 0⟩) (meth := k2m0) (c := k2c0) (by decide +kernel) rfl rfl rfl (by decide +kernel)
set_option maxRecDepth 65536 in
theorem w_c2 : (Jvm.Cond.code ({ cls := "java/lang/Object", name := "<init>", desc := "()V" } : Jvm.MethodName) object_method_1_code (1 : Nat) (Option.none : Option Jvm.ClassFile.FieldType)).before args0 about1 = true := code_word (m := ⟨0, 0⟩) (meth := k0m0) (c := k0c0) (by decide +kernel) rfl rfl rfl (by decide +kernel)
set_option maxRecDepth 65536 in
theorem w_c3 : (Jvm.Cond.code ({ cls := "com/example/vigilant_consumer/vigilantconsumer/ProtocolWriter", name := "toByteArray", desc := "()[B" } : Jvm.MethodName) prog_49_method_11_code (1 : Nat) (Option.some (Jvm.ClassFile.FieldType.array Jvm.ClassFile.FieldType.byte))).before args0 about1 = true := code_word (m := ⟨2, 6⟩) (meth := k2m6) (c := k2c6) (by decide +kernel) rfl rfl rfl (by decide +kernel)
set_option maxRecDepth 65536 in
theorem w_c4 : (Jvm.Cond.code ({ cls := "java/util/Arrays", name := "copyOf", desc := "([BI)[B" } : Jvm.MethodName) jdk_65_method_121_code (3 : Nat) (Option.some (Jvm.ClassFile.FieldType.array Jvm.ClassFile.FieldType.byte))).before args0 about1 = true := code_word (m := ⟨3, 1⟩) (meth := k3m1) (c := k3c1) (by decide +kernel) rfl rfl rfl (by decide +kernel)
set_option maxRecDepth 65536 in
theorem w_c5 : (Jvm.Cond.code ({ cls := "java/lang/Math", name := "min", desc := "(II)I" } : Jvm.MethodName) jdk_29_method_69_code (2 : Nat) (Option.some Jvm.ClassFile.FieldType.int)).before args0 about1 = true := code_word (m := ⟨4, 2⟩) (meth := k4m2) (c := k4c2) (by decide +kernel) rfl rfl rfl (by decide +kernel)
set_option maxRecDepth 65536 in
theorem w_c6 : (Jvm.Cond.code ({ cls := "com/example/vigilant_consumer/vigilantconsumer/ProtocolWriter", name := "int8", desc := "(I)V" } : Jvm.MethodName) prog_49_method_2_code (2 : Nat) (Option.none : Option Jvm.ClassFile.FieldType)).before args0 about1 = true := code_word (m := ⟨2, 1⟩) (meth := k2m1) (c := k2c1) (by decide +kernel) rfl rfl rfl (by decide +kernel)
set_option maxRecDepth 65536 in
theorem w_c7 : (Jvm.Cond.code ({ cls := "com/example/vigilant_consumer/vigilantconsumer/ProtocolWriter", name := "ensure", desc := "(I)V" } : Jvm.MethodName) prog_49_method_14_code (2 : Nat) (Option.none : Option Jvm.ClassFile.FieldType)).before args0 about1 = true := code_word (m := ⟨2, 8⟩) (meth := k2m8) (c := k2c8) (by decide +kernel) rfl rfl rfl (by decide +kernel)
set_option maxRecDepth 65536 in
theorem w_c8 : (Jvm.Cond.code ({ cls := "com/example/vigilant_consumer/vigilantconsumer/ProtocolWriter", name := "int16", desc := "(I)V" } : Jvm.MethodName) prog_49_method_3_code (2 : Nat) (Option.none : Option Jvm.ClassFile.FieldType)).before args0 about1 = true := code_word (m := ⟨2, 2⟩) (meth := k2m2) (c := k2c2) (by decide +kernel) rfl rfl rfl (by decide +kernel)
set_option maxRecDepth 65536 in
theorem w_c9 : (Jvm.Cond.code ({ cls := "com/example/vigilant_consumer/vigilantconsumer/ProtocolWriter", name := "int32", desc := "(I)V" } : Jvm.MethodName) prog_49_method_4_code (3 : Nat) (Option.none : Option Jvm.ClassFile.FieldType)).before args0 about1 = true := code_word (m := ⟨2, 3⟩) (meth := k2m3) (c := k2c3) (by decide +kernel) rfl rfl rfl (by decide +kernel)
set_option maxRecDepth 65536 in
theorem w_c10 : (Jvm.Cond.code ({ cls := "com/example/vigilant_consumer/vigilantconsumer/ProtocolWriter", name := "int64", desc := "(J)V" } : Jvm.MethodName) prog_49_method_5_code (4 : Nat) (Option.none : Option Jvm.ClassFile.FieldType)).before args0 about1 = true := code_word (m := ⟨2, 4⟩) (meth := k2m4) (c := k2c4) (by decide +kernel) rfl rfl rfl (by decide +kernel)
set_option maxRecDepth 65536 in
theorem w_c11 : (Jvm.Cond.code ({ cls := "com/example/vigilant_consumer/vigilantconsumer/ProtocolWriterToByteArrayPinLaw", name := "int16At", desc := "([BII)Z" } : Jvm.MethodName) method_2_code (3 : Nat) (Option.some Jvm.ClassFile.FieldType.boolean)).before args0 about1 = true := code_word (m := ⟨1, 1⟩) (meth := k1m1) (c := k1c1) (by decide +kernel) rfl rfl rfl (by decide +kernel)
set_option maxRecDepth 65536 in
theorem w_c12 : (Jvm.Cond.code ({ cls := "com/example/vigilant_consumer/vigilantconsumer/ProtocolWriterToByteArrayPinLaw", name := "int32At", desc := "([BII)Z" } : Jvm.MethodName) method_3_code (3 : Nat) (Option.some Jvm.ClassFile.FieldType.boolean)).before args0 about1 = true := code_word (m := ⟨1, 2⟩) (meth := k1m2) (c := k1c2) (by decide +kernel) rfl rfl rfl (by decide +kernel)
set_option maxRecDepth 65536 in
theorem w_c13 : (Jvm.Cond.code ({ cls := "com/example/vigilant_consumer/vigilantconsumer/ProtocolWriterToByteArrayPinLaw", name := "int64At", desc := "([BIJ)Z" } : Jvm.MethodName) method_4_code (4 : Nat) (Option.some Jvm.ClassFile.FieldType.boolean)).before args0 about1 = true := code_word (m := ⟨1, 3⟩) (meth := k1m3) (c := k1c3) (by decide +kernel) rfl rfl rfl (by decide +kernel)
set_option maxRecDepth 65536 in
theorem w_c14 : (Jvm.Cond.code ({ cls := "com/example/vigilant_consumer/vigilantconsumer/ProtocolWriter", name := "bytes", desc := "([B)V" } : Jvm.MethodName) prog_49_method_8_code (2 : Nat) (Option.none : Option Jvm.ClassFile.FieldType)).before args0 about1 = true := code_word (m := ⟨2, 5⟩) (meth := k2m5) (c := k2c5) (by decide +kernel) rfl rfl rfl (by decide +kernel)
set_option maxRecDepth 65536 in
theorem w_c15 : (Jvm.Cond.code ({ cls := "com/example/vigilant_consumer/vigilantconsumer/ProtocolWriter", name := "append", desc := "([B)V" } : Jvm.MethodName) prog_49_method_13_code (2 : Nat) (Option.none : Option Jvm.ClassFile.FieldType)).before args0 about1 = true := code_word (m := ⟨2, 7⟩) (meth := k2m7) (c := k2c7) (by decide +kernel) rfl rfl rfl (by decide +kernel)
set_option maxRecDepth 65536 in
theorem w_c16 : (Jvm.Cond.code ({ cls := "java/lang/Math", name := "max", desc := "(II)I" } : Jvm.MethodName) jdk_29_method_65_code (2 : Nat) (Option.some Jvm.ClassFile.FieldType.int)).before args0 about1 = true := code_word (m := ⟨4, 1⟩) (meth := k4m1) (c := k4c1) (by decide +kernel) rfl rfl rfl (by decide +kernel)
def codes1 : List Jvm.Cond := [Jvm.Cond.code x code maxLocals ret, Jvm.Cond.code ({ cls := "com/example/vigilant_consumer/vigilantconsumer/ProtocolWriter", name := "<init>", desc := "()V" } : Jvm.MethodName) prog_49_method_1_code (1 : Nat) (Option.none : Option Jvm.ClassFile.FieldType), Jvm.Cond.code ({ cls := "java/lang/Object", name := "<init>", desc := "()V" } : Jvm.MethodName) object_method_1_code (1 : Nat) (Option.none : Option Jvm.ClassFile.FieldType), Jvm.Cond.code ({ cls := "com/example/vigilant_consumer/vigilantconsumer/ProtocolWriter", name := "toByteArray", desc := "()[B" } : Jvm.MethodName) prog_49_method_11_code (1 : Nat) (Option.some (Jvm.ClassFile.FieldType.array Jvm.ClassFile.FieldType.byte)), Jvm.Cond.code ({ cls := "java/util/Arrays", name := "copyOf", desc := "([BI)[B" } : Jvm.MethodName) jdk_65_method_121_code (3 : Nat) (Option.some (Jvm.ClassFile.FieldType.array Jvm.ClassFile.FieldType.byte)), Jvm.Cond.code ({ cls := "java/lang/Math", name := "min", desc := "(II)I" } : Jvm.MethodName) jdk_29_method_69_code (2 : Nat) (Option.some Jvm.ClassFile.FieldType.int), Jvm.Cond.code ({ cls := "com/example/vigilant_consumer/vigilantconsumer/ProtocolWriter", name := "int8", desc := "(I)V" } : Jvm.MethodName) prog_49_method_2_code (2 : Nat) (Option.none : Option Jvm.ClassFile.FieldType), Jvm.Cond.code ({ cls := "com/example/vigilant_consumer/vigilantconsumer/ProtocolWriter", name := "ensure", desc := "(I)V" } : Jvm.MethodName) prog_49_method_14_code (2 : Nat) (Option.none : Option Jvm.ClassFile.FieldType), Jvm.Cond.code ({ cls := "com/example/vigilant_consumer/vigilantconsumer/ProtocolWriter", name := "int16", desc := "(I)V" } : Jvm.MethodName) prog_49_method_3_code (2 : Nat) (Option.none : Option Jvm.ClassFile.FieldType), Jvm.Cond.code ({ cls := "com/example/vigilant_consumer/vigilantconsumer/ProtocolWriter", name := "int32", desc := "(I)V" } : Jvm.MethodName) prog_49_method_4_code (3 : Nat) (Option.none : Option Jvm.ClassFile.FieldType), Jvm.Cond.code ({ cls := "com/example/vigilant_consumer/vigilantconsumer/ProtocolWriter", name := "int64", desc := "(J)V" } : Jvm.MethodName) prog_49_method_5_code (4 : Nat) (Option.none : Option Jvm.ClassFile.FieldType), Jvm.Cond.code ({ cls := "com/example/vigilant_consumer/vigilantconsumer/ProtocolWriterToByteArrayPinLaw", name := "int16At", desc := "([BII)Z" } : Jvm.MethodName) method_2_code (3 : Nat) (Option.some Jvm.ClassFile.FieldType.boolean), Jvm.Cond.code ({ cls := "com/example/vigilant_consumer/vigilantconsumer/ProtocolWriterToByteArrayPinLaw", name := "int32At", desc := "([BII)Z" } : Jvm.MethodName) method_3_code (3 : Nat) (Option.some Jvm.ClassFile.FieldType.boolean), Jvm.Cond.code ({ cls := "com/example/vigilant_consumer/vigilantconsumer/ProtocolWriterToByteArrayPinLaw", name := "int64At", desc := "([BIJ)Z" } : Jvm.MethodName) method_4_code (4 : Nat) (Option.some Jvm.ClassFile.FieldType.boolean), Jvm.Cond.code ({ cls := "com/example/vigilant_consumer/vigilantconsumer/ProtocolWriter", name := "bytes", desc := "([B)V" } : Jvm.MethodName) prog_49_method_8_code (2 : Nat) (Option.none : Option Jvm.ClassFile.FieldType), Jvm.Cond.code ({ cls := "com/example/vigilant_consumer/vigilantconsumer/ProtocolWriter", name := "append", desc := "([B)V" } : Jvm.MethodName) prog_49_method_13_code (2 : Nat) (Option.none : Option Jvm.ClassFile.FieldType), Jvm.Cond.code ({ cls := "java/lang/Math", name := "max", desc := "(II)I" } : Jvm.MethodName) jdk_29_method_65_code (2 : Nat) (Option.some Jvm.ClassFile.FieldType.int)]
set_option maxRecDepth 65536 in
theorem codes_eq : words1.filter isCode = codes1 := rfl
theorem w_codes : ∀ c ∈ words1.filter isCode, c.before args0 about1 = true := by
  rw [codes_eq]
  intro c hc
  simp only [codes1, List.mem_cons, List.not_mem_nil, or_false] at hc
  rcases hc with rfl | rfl | rfl | rfl | rfl | rfl | rfl | rfl | rfl | rfl | rfl | rfl | rfl | rfl | rfl | rfl | rfl
  · exact w_c0
  · exact w_c1
  · exact w_c2
  · exact w_c3
  · exact w_c4
  · exact w_c5
  · exact w_c6
  · exact w_c7
  · exact w_c8
  · exact w_c9
  · exact w_c10
  · exact w_c11
  · exact w_c12
  · exact w_c13
  · exact w_c14
  · exact w_c15
  · exact w_c16
set_option maxRecDepth 65536 in
theorem w_t1 : (words1.take 24).all (fun c => isCode c || c.before args0 about1) = true := by decide +kernel
set_option maxRecDepth 65536 in
theorem w_t2 : ((words1.drop 24).take 24).all (fun c => isCode c || c.before args0 about1) = true := by decide +kernel
set_option maxRecDepth 65536 in
theorem w_t3 : (((words1.drop 24).drop 24).take 24).all (fun c => isCode c || c.before args0 about1) = true := by decide +kernel
set_option maxRecDepth 65536 in
theorem w_t4 : (((words1.drop 24).drop 24).drop 24).all (fun c => isCode c || c.before args0 about1) = true := by decide +kernel
theorem w_tables : (allAtoms (Jvm.Cond.code x code maxLocals ret :: tables_1)).before args0 about1 = true := by
  rw [allAtoms_all]
  show words1.all (fun c => c.before args0 about1) = true
  refine all_split ?_ w_codes
  rw [← List.take_append_drop 24 words1, List.all_append, w_t1, ← List.take_append_drop 24 (words1.drop 24), List.all_append, w_t2, ← List.take_append_drop 24 ((words1.drop 24).drop 24), List.all_append, w_t3, w_t4]
  rfl
set_option maxRecDepth 65536 in
theorem w_case : (Jvm.Cond.and given_1 narrow_1).before args0 about1 = true := by decide +kernel
theorem w_applies : (headSpec (Jvm.Cond.code x code maxLocals ret :: tables_1) room_1).applies x e0.platform about1 = true :=
  (Spec.applies_iff w_frames).mpr ⟨w_running, w_runnable, w_alone, w_named, w_hears, w_ripe, w_room, w_tables⟩
theorem atStart : AtStart classFile x code maxLocals ret World_1 tables_1 room_1 Calls_1 rest_1 Pre_1 launch0 p0 e0 about1 theMethod args0 below0 :=
  ⟨lists_1, trivial, launch0.admits_env _ _ _, launch0.least_env, fairChoices_fair.cas, fairChoices_fair.clock, w_frames, w_args, w_heap, w_applies, trivial, trivial, w_case⟩
end start1
theorem witness_1 : WitnessClaimed_1 := ⟨start1.p0, start1.e0, start1.about1, start1.theMethod, start1.args0, start1.below0, start1.atStart⟩
end Jvm.Pilot.@@N@@
