import JvmDerived
import JvmDerived.Pilot.@@N@@Statement
import JvmDerived.Pilot.@@N@@Code
set_option linter.unusedVariables false
set_option linter.unusedSimpArgs false
namespace Jvm.Pilot.@@N@@
open Jvm Jvm.ClassFile Sem Op Lib Jvm.Free Jvm.Stand Jvm.LawKit Jvm.RoadKit Bundle Jvm.Pilot.@@N@@.Jvm.D

theorem own_lt_t {x y : Int32} {a b : Int} (hx : x.toInt = a) (hy : y.toInt = b) (h : a < b) : if_icmp.holds .lt x y = true := (tlt (Int32.lt_iff_toInt_lt.mpr (by omega))).1
theorem own_lt_f {x y : Int32} {a b : Int} (hx : x.toInt = a) (hy : y.toInt = b) (h : ¬ (a < b)) : if_icmp.holds .lt x y = false := (flt (fun q => h (by have := Int32.lt_iff_toInt_lt.mp q; omega))).1
theorem own_ge_t {x y : Int32} {a b : Int} (hx : x.toInt = a) (hy : y.toInt = b) (h : ¬ (a < b)) : if_icmp.holds .ge x y = true := (flt (fun q => h (by have := Int32.lt_iff_toInt_lt.mp q; omega))).2.1
theorem own_ge_f {x y : Int32} {a b : Int} (hx : x.toInt = a) (hy : y.toInt = b) (h : a < b) : if_icmp.holds .ge x y = false := (tlt (Int32.lt_iff_toInt_lt.mpr (by omega))).2.1
theorem own_gt_t {x y : Int32} {a b : Int} (hx : x.toInt = a) (hy : y.toInt = b) (h : b < a) : if_icmp.holds .gt x y = true := (tlt (Int32.lt_iff_toInt_lt.mpr (by omega))).2.2.1
theorem own_gt_f {x y : Int32} {a b : Int} (hx : x.toInt = a) (hy : y.toInt = b) (h : ¬ (b < a)) : if_icmp.holds .gt x y = false := (flt (fun q => h (by have := Int32.lt_iff_toInt_lt.mp q; omega))).2.2.1
theorem own_le_t {x y : Int32} {a b : Int} (hx : x.toInt = a) (hy : y.toInt = b) (h : ¬ (b < a)) : if_icmp.holds .le x y = true := (flt (fun q => h (by have := Int32.lt_iff_toInt_lt.mp q; omega))).2.2.2
theorem own_le_f {x y : Int32} {a b : Int} (hx : x.toInt = a) (hy : y.toInt = b) (h : b < a) : if_icmp.holds .le x y = false := (tlt (Int32.lt_iff_toInt_lt.mpr (by omega))).2.2.2
theorem own_eq_t {x y : Int32} {a b : Int} (hx : x.toInt = a) (hy : y.toInt = b) (h : a = b) : if_icmp.holds .eq x y = true := (teq (Int32.toInt_inj.mp (by omega))).1
theorem own_eq_f {x y : Int32} {a b : Int} (hx : x.toInt = a) (hy : y.toInt = b) (h : ¬ (a = b)) : if_icmp.holds .eq x y = false := (feq (fun q => h (by rw [← hx, ← hy, q]))).1
theorem own_ne_t {x y : Int32} {a b : Int} (hx : x.toInt = a) (hy : y.toInt = b) (h : ¬ (a = b)) : if_icmp.holds .ne x y = true := (feq (fun q => h (by rw [← hx, ← hy, q]))).2
theorem own_ne_f {x y : Int32} {a b : Int} (hx : x.toInt = a) (hy : y.toInt = b) (h : a = b) : if_icmp.holds .ne x y = false := (teq (Int32.toInt_inj.mp (by omega))).2

theorem own_Llt_t {x y : Int64} {a b : Int} (hx : x.toInt = a) (hy : y.toInt = b) (h : a < b) : ifCond.holds .lt (lcmpW x y) = true := (if0 _ _).trans (tlt ((lw_lt x y).mpr (Int64.lt_iff_toInt_lt.mpr (by omega)))).1
theorem own_Llt_f {x y : Int64} {a b : Int} (hx : x.toInt = a) (hy : y.toInt = b) (h : ¬ (a < b)) : ifCond.holds .lt (lcmpW x y) = false := (if0 _ _).trans (flt (fun q => h (by have := Int64.lt_iff_toInt_lt.mp ((lw_lt x y).mp q); omega))).1
theorem own_Lge_t {x y : Int64} {a b : Int} (hx : x.toInt = a) (hy : y.toInt = b) (h : ¬ (a < b)) : ifCond.holds .ge (lcmpW x y) = true := (if0 _ _).trans (flt (fun q => h (by have := Int64.lt_iff_toInt_lt.mp ((lw_lt x y).mp q); omega))).2.1
theorem own_Lge_f {x y : Int64} {a b : Int} (hx : x.toInt = a) (hy : y.toInt = b) (h : a < b) : ifCond.holds .ge (lcmpW x y) = false := (if0 _ _).trans (tlt ((lw_lt x y).mpr (Int64.lt_iff_toInt_lt.mpr (by omega)))).2.1
theorem own_Lgt_t {x y : Int64} {a b : Int} (hx : x.toInt = a) (hy : y.toInt = b) (h : b < a) : ifCond.holds .gt (lcmpW x y) = true := (if0 _ _).trans (tlt ((lw_gt x y).mpr (Int64.lt_iff_toInt_lt.mpr (by omega)))).2.2.1
theorem own_Lgt_f {x y : Int64} {a b : Int} (hx : x.toInt = a) (hy : y.toInt = b) (h : ¬ (b < a)) : ifCond.holds .gt (lcmpW x y) = false := (if0 _ _).trans (flt (fun q => h (by have := Int64.lt_iff_toInt_lt.mp ((lw_gt x y).mp q); omega))).2.2.1
theorem own_Lle_t {x y : Int64} {a b : Int} (hx : x.toInt = a) (hy : y.toInt = b) (h : ¬ (b < a)) : ifCond.holds .le (lcmpW x y) = true := (if0 _ _).trans (flt (fun q => h (by have := Int64.lt_iff_toInt_lt.mp ((lw_gt x y).mp q); omega))).2.2.2
theorem own_Lle_f {x y : Int64} {a b : Int} (hx : x.toInt = a) (hy : y.toInt = b) (h : b < a) : ifCond.holds .le (lcmpW x y) = false := (if0 _ _).trans (tlt ((lw_gt x y).mpr (Int64.lt_iff_toInt_lt.mpr (by omega)))).2.2.2
theorem own_Leq_t {x y : Int64} {a b : Int} (hx : x.toInt = a) (hy : y.toInt = b) (h : a = b) : ifCond.holds .eq (lcmpW x y) = true := (if0 _ _).trans (teq ((lw_eq x y).mpr (Int64.toInt_inj.mp (by omega)))).1
theorem own_Leq_f {x y : Int64} {a b : Int} (hx : x.toInt = a) (hy : y.toInt = b) (h : ¬ (a = b)) : ifCond.holds .eq (lcmpW x y) = false := (if0 _ _).trans (feq (fun q => h (by rw [← hx, ← hy, (lw_eq x y).mp q]))).1
theorem own_Lne_t {x y : Int64} {a b : Int} (hx : x.toInt = a) (hy : y.toInt = b) (h : ¬ (a = b)) : ifCond.holds .ne (lcmpW x y) = true := (if0 _ _).trans (feq (fun q => h (by rw [← hx, ← hy, (lw_eq x y).mp q]))).2
theorem own_Lne_f {x y : Int64} {a b : Int} (hx : x.toInt = a) (hy : y.toInt = b) (h : a = b) : ifCond.holds .ne (lcmpW x y) = false := (if0 _ _).trans (teq ((lw_eq x y).mpr (Int64.toInt_inj.mp (by omega)))).2

def own_v4 (w : Int64) : Int32 := if 0 < w.toInt then 1 else 0
def own_v5 (w : Int64) : Int32 := if w.toInt = -1 then 0 else 1
theorem own_v4_01 (w : Int64) : ((own_v4 w).toInt = 0 ∧ w.toInt ≤ 0) ∨ ((own_v4 w).toInt = 1 ∧ 0 < w.toInt) := by
  unfold own_v4
  by_cases h : 0 < w.toInt
  · rw [if_pos h]; exact Or.inr ⟨by decide, h⟩
  · rw [if_neg h]; exact Or.inl ⟨by decide, by omega⟩

theorem d2_0 : decode jdk_30_method_1_code 0 = .ok (.aload_n 0, 1) := by decide +kernel
theorem d2_1 : decode jdk_30_method_1_code 1 = .ok (.invokespecial 1, 3) := by decide +kernel
theorem d2_4 : decode jdk_30_method_1_code 4 = .ok (.return_, 1) := by decide +kernel
theorem pn_2 : plainName "java/lang/Record" = true := by first | (simp [plainName, overriddenIn]; done) | decide +kernel
theorem ef_2 (m : MethodId) (a1 : Addr) : entryFrame m #[(.ref a1)] 1 = mkF m 0 #[.val (.ref a1)] [] := by first | (simp [entryFrame, mkF, argsToLocals, Value.category]; done) | rfl
def Q2 (Z : State) (a1 : Addr) (h0 : Heap) (n0 : Nat) (v : Option Value) (h : Heap) (L : List Loc) : Prop := v = none ∧ Fr n0 L ∧ h = h0
set_option maxRecDepth 65536 in
set_option maxHeartbeats 40000000 in
theorem rm2 (l : Launch) (Z : State) (a0 : Array Value) (hw : ∀ d ∈ tables_1, d.before a0 Z = true) (ws : List Jvm.Cond) (a1 : Addr) (h0 : Heap) (n0 : Nat) (Z0 : n0 ≤ h0.size)  :
    MetFree l (⟨"java/lang/Record", "<init>", "()V"⟩ : MethodName) (head1 (Jvm.Cond.code (⟨"java/lang/Record", "<init>", "()V"⟩ : MethodName) jdk_30_method_1_code 1 none :: ws) ({ frames := 1, cells := 0, slots := 0, locals := 12 } : Room)) (fun a U => a = #[(.ref a1)] ∧ Z.Warmed39 U.vm ∧ U.heap = h0) (fun _ _ _ _ _ => True) (fun _ U o U' => ∃ v L, o = .returned v ∧ Q2 Z a1 h0 n0 v U'.heap L ∧ FrameEnd U o U' L ({ frames := 1, cells := 0, slots := 0, locals := 12 } : Room).cells ({ frames := 1, cells := 0, slots := 0, locals := 12 } : Room).slots) := by
  refine MetFree.of_bodySF (plainFor_of_name pn_2) hisR ?_
  intro p e s m args below meth c s₁ Bd hml0 hP hK
  obtain ⟨rfl, hZ, hh⟩ := hP
  have hx := Bd.exec
  have hby := Bd.bytes
  have hml : c.maxLocals = 1 := hml0
  have hown : s.vm.findClass "java/lang/Record" = some m.cls := findClass_of_methodNamed Bd.named
  have hnm := (name_of_methodNamed Bd.named Bd.method).1
  have X0 : Stand p l e ({ frames := 1, cells := 0, slots := 0, locals := 12 } : Room) s m #[(.ref a1)] below meth c s₁ [] 0 0 := Stand.of_body Bd
  have e0 : s₁.heap = h0 := by rw [← hh, Bd.state]; rfl
  have N0 := Fr.nil n0
  have pre0 : ∀ t, Steps p.tables e below (s₁.setTop (mkF m 0 #[.val (.ref a1)] [])) t → Steps p.tables e below (s₁.setTop (entryFrame m #[(.ref a1)] 1)) t := fun t k => castTop (ef_2 m a1) k
  obtain ⟨T101, X101, e101, st101⟩ := initO X0 hx hZ hown (hw _ (List.mem_of_getElem? (i := 12) rfl)) (hw _ (List.mem_of_getElem? (i := 13) rfl)) (hw _ (List.mem_of_getElem? (i := 14) rfl)) e0 (g := (mkF m 1 #[.val (.ref a1)] [(.ref a1)])) rfl (by rw [hml]; rfl) rfl (hb hby d2_1) (by decide) (W := 0) (by show 2 * 0 + _ ≤ _; exact Nat.le_of_eq rfl) (by decide)
  have pre102 : ∀ t, Steps p.tables e below (T101.setTop (mkF m 4 #[.val (.ref a1)] [])) t → Steps p.tables e below (s₁.setTop (entryFrame m #[(.ref a1)] 1)) t := fun t9 k9 => pre0 t9 (by
      show Steps p.tables e below (s₁.setTop (mkF m 0 #[.val (.ref a1)] [])) _
      refine XS.aloadN X0.here hx rfl (hb hby d2_0) rfl rfl ?_
      show Steps p.tables e below (s₁.setTop (mkF m 1 #[.val (.ref a1)] [(.ref a1)])) _
      refine st101 _ ?_
      exact k9)
  obtain ⟨fs, hr, hrun, hended, hW, hsame⟩ := X101.leave (v := none) (fun _ => rfl)
  refine ⟨_, _, pre102 _ ?_, hrun, hended, _, _, rfl, ?_, ⟨_, rfl⟩, hW, hsame.mono (by decide) (by decide)⟩
  · show Steps p.tables e below (T101.setTop (mkF m 4 #[.val (.ref a1)] [])) _
    exact X101.returnOut hx Bd.returns (hb hby d2_4) hr
  · show Q2 Z a1 h0 n0 _ T101.heap _
    rw [e101]
    exact ⟨rfl, N0, rfl⟩
theorem d1_0 : decode prog_46_method_1_code 0 = .ok (.aload_n 0, 1) := by decide +kernel
theorem d1_1 : decode prog_46_method_1_code 1 = .ok (.invokespecial 1, 3) := by decide +kernel
theorem d1_4 : decode prog_46_method_1_code 4 = .ok (.aload_n 0, 1) := by decide +kernel
theorem d1_5 : decode prog_46_method_1_code 5 = .ok (.lload_n 1, 1) := by decide +kernel
theorem d1_6 : decode prog_46_method_1_code 6 = .ok (.putfield 7, 3) := by decide +kernel
theorem d1_9 : decode prog_46_method_1_code 9 = .ok (.aload_n 0, 1) := by decide +kernel
theorem d1_10 : decode prog_46_method_1_code 10 = .ok (.lload_n 3, 1) := by decide +kernel
theorem d1_11 : decode prog_46_method_1_code 11 = .ok (.putfield 13, 3) := by decide +kernel
theorem d1_14 : decode prog_46_method_1_code 14 = .ok (.return_, 1) := by decide +kernel
theorem pd_1_0 : parseMethodDescriptor "()V" = some ⟨[], none⟩ := by decide +kernel
theorem pn_1 : plainName "com/example/mass_cluster/masscluster/GzipMembers$Place" = true := by first | (simp [plainName, overriddenIn]; done) | decide +kernel
theorem ef_1 (m : MethodId) (a1 : Addr) (q2 : Int64) (q3 : Int64) : entryFrame m #[(.ref a1), (.long q2), (.long q3)] 5 = mkF m 0 #[.val (.ref a1), .val (.long q2), .second, .val (.long q3), .second] [] := by first | (simp [entryFrame, mkF, argsToLocals, Value.category]; done) | rfl
def Q1 (Z : State) (a1 : Addr) (q2 : Int64) (q3 : Int64) (h0 : Heap) (n0 : Nat) (v : Option Value) (h : Heap) (L : List Loc) : Prop := v = none ∧ Fr n0 L ∧ Keep h0 h [a1] ∧ Exa Z h a1 "com/example/mass_cluster/masscluster/GzipMembers$Place" ∧ Fld Z h a1 "com/example/mass_cluster/masscluster/GzipMembers$Place" "offset" "J" (.long q2) ∧ Fld Z h a1 "com/example/mass_cluster/masscluster/GzipMembers$Place" "inMember" "J" (.long q3)
set_option maxRecDepth 65536 in
set_option maxHeartbeats 40000000 in
theorem rm1 (l : Launch) (Z : State) (a0 : Array Value) (hw : ∀ d ∈ tables_1, d.before a0 Z = true) (ws : List Jvm.Cond) (a1 : Addr) (q2 : Int64) (q3 : Int64) (h0 : Heap) (n0 : Nat) (Z0 : n0 ≤ h0.size) (E_a1 : Exa Z h0 a1 "com/example/mass_cluster/masscluster/GzipMembers$Place") (F_o : Fld Z h0 a1 "com/example/mass_cluster/masscluster/GzipMembers$Place" "offset" "J" (.long (0 : Int64))) (F_i : Fld Z h0 a1 "com/example/mass_cluster/masscluster/GzipMembers$Place" "inMember" "J" (.long (0 : Int64))) (g_a1 : n0 ≤ a1) :
    MetFree l (⟨"com/example/mass_cluster/masscluster/GzipMembers$Place", "<init>", "(JJ)V"⟩ : MethodName) (head1 (Jvm.Cond.code (⟨"com/example/mass_cluster/masscluster/GzipMembers$Place", "<init>", "(JJ)V"⟩ : MethodName) prog_46_method_1_code 5 none :: ws) ({ frames := 2, cells := 0, slots := 0, locals := 24 } : Room)) (fun a U => a = #[(.ref a1), (.long q2), (.long q3)] ∧ Z.Warmed39 U.vm ∧ U.heap = h0) (fun _ _ _ _ _ => True) (fun _ U o U' => ∃ v L, o = .returned v ∧ Q1 Z a1 q2 q3 h0 n0 v U'.heap L ∧ FrameEnd U o U' L ({ frames := 2, cells := 0, slots := 0, locals := 24 } : Room).cells ({ frames := 2, cells := 0, slots := 0, locals := 24 } : Room).slots) := by
  refine MetFree.of_bodySF (plainFor_of_name pn_1) hisR ?_
  intro p e s m args below meth c s₁ Bd hml0 hP hK
  obtain ⟨rfl, hZ, hh⟩ := hP
  have hx := Bd.exec
  have hby := Bd.bytes
  have hml : c.maxLocals = 5 := hml0
  have hown : s.vm.findClass "com/example/mass_cluster/masscluster/GzipMembers$Place" = some m.cls := findClass_of_methodNamed Bd.named
  have hnm := (name_of_methodNamed Bd.named Bd.method).1
  have X0 : Stand p l e ({ frames := 2, cells := 0, slots := 0, locals := 24 } : Room) s m #[(.ref a1), (.long q2), (.long q3)] below meth c s₁ [] 0 0 := Stand.of_body Bd
  have e0 : s₁.heap = h0 := by rw [← hh, Bd.state]; rfl
  have N0 := Fr.nil n0
  have pre0 : ∀ t, Steps p.tables e below (s₁.setTop (mkF m 0 #[.val (.ref a1), .val (.long q2), .second, .val (.long q3), .second] [])) t → Steps p.tables e below (s₁.setTop (entryFrame m #[(.ref a1), (.long q2), (.long q3)] 5)) t := fun t k => castTop (ef_1 m a1 q2 q3) k
  obtain ⟨_, _, ⟨T101, L101, k101, n101⟩, -, X101, ⟨Lc101, hQ101, l101, y101, z101⟩, st101⟩ := X0.specialBack hx (y := (⟨"java/lang/Record", "<init>", "()V"⟩ : MethodName)) rfl hown (mvT hZ (hw _ (List.mem_of_getElem? (i := 7) rfl))) (mvT hZ (hw _ (List.mem_of_getElem? (i := 8) rfl))) (mvT hZ (hw _ (List.mem_of_getElem? (i := 11) rfl))) (by decide) (backOf (W := 0) (rm2 l Z a0 hw [] a1 h0 n0 Z0 ) hZ (hw _ (List.mem_of_getElem? (i := 11) rfl)) (hw _ (List.mem_of_getElem? (i := 10) rfl)) (by decide) (by decide)) (g := (mkF m 1 #[.val (.ref a1), .val (.long q2), .second, .val (.long q3), .second] [(.ref a1)])) rfl (by rw [hml]; rfl) (Steps.refl _) (a := a1) (argsL := []) (rest := []) (lenOf pd_1_0 rfl) rfl (by show 2 * 0 + _ ≤ _; exact Nat.le_of_eq rfl) (hb hby d1_1) (fun _ _ => ⟨rfl, e0, (by decide : 0 + 0 ≤ _), (by decide : 0 + 0 ≤ _)⟩)
  dsimp only [Pt.U, Pt.locs, Pt.cells, Pt.slots] at X101 l101 y101 z101 st101 hQ101
  subst l101 y101 z101
  obtain ⟨hv101, N101q, e101⟩ := hQ101
  subst hv101
  have N101 := Fr.app N0 N101q
  obtain ⟨T102, h102, X102, e102, W102, st102⟩ := putF X101 hx hZ hown (host := "") (Or.inl (hw _ (List.mem_of_getElem? (i := 15) rfl))) Via.refl e101 F_o E_a1 (Or.inr ⟨(hw _ (List.mem_of_getElem? (i := 16) rfl)), rfl, hnm⟩) (hw _ (List.mem_of_getElem? (i := 2) rfl)) (ty := .long) (by decide) rfl rfl (g := (mkF m 6 #[.val (.ref a1), .val (.long q2), .second, .val (.long q3), .second] [(.long q2), (.ref a1)])) rfl rfl (hb hby d1_6)
  have E103 := E_a1.wr W102
  have F104 := F_i.other W102 (Or.inr (slot_ne (Or.inr (hw _ (List.mem_of_getElem? (i := 18) rfl))) (Or.inr (hw _ (List.mem_of_getElem? (i := 16) rfl))) (by decide) (t := .long) (t' := .long) (by decide) (by decide)))
  have Fw102 := F_o.same W102
  have N102 := Fr.snoc X102 N101 g_a1
  have K102 := (Keep.refl h0 [a1]).wr W102 (Or.inl (List.mem_of_getElem? (i := 0) rfl))
  have Z102 : n0 ≤ h102.size := (Nat.le_trans Z0 (Keep.of_wr W102).1)
  obtain ⟨T105, h105, X105, e105, W105, st105⟩ := putF X102 hx hZ hown (host := "") (Or.inl (hw _ (List.mem_of_getElem? (i := 17) rfl))) Via.refl e102 F104 E103 (Or.inr ⟨(hw _ (List.mem_of_getElem? (i := 18) rfl)), rfl, hnm⟩) (hw _ (List.mem_of_getElem? (i := 2) rfl)) (ty := .long) (by decide) rfl rfl (g := (mkF m 11 #[.val (.ref a1), .val (.long q2), .second, .val (.long q3), .second] [(.long q3), (.ref a1)])) rfl rfl (hb hby d1_11)
  have E106 := E103.wr W105
  have F107 := Fw102.other W105 (Or.inr (slot_ne (Or.inr (hw _ (List.mem_of_getElem? (i := 16) rfl))) (Or.inr (hw _ (List.mem_of_getElem? (i := 18) rfl))) (by decide) (t := .long) (t' := .long) (by decide) (by decide)))
  have Fw105 := F104.same W105
  have N105 := Fr.snoc X105 N102 g_a1
  have K105 := K102.wr W105 (Or.inl (List.mem_of_getElem? (i := 0) rfl))
  have Z105 : n0 ≤ h105.size := (Nat.le_trans Z102 (Keep.of_wr W105).1)
  have pre108 : ∀ t, Steps p.tables e below (T105.setTop (mkF m 14 #[.val (.ref a1), .val (.long q2), .second, .val (.long q3), .second] [])) t → Steps p.tables e below (s₁.setTop (entryFrame m #[(.ref a1), (.long q2), (.long q3)] 5)) t := fun t9 k9 => pre0 t9 (by
      show Steps p.tables e below (s₁.setTop (mkF m 0 #[.val (.ref a1), .val (.long q2), .second, .val (.long q3), .second] [])) _
      refine XS.aloadN X0.here hx rfl (hb hby d1_0) rfl rfl ?_
      show Steps p.tables e below (s₁.setTop (mkF m 1 #[.val (.ref a1), .val (.long q2), .second, .val (.long q3), .second] [(.ref a1)])) _
      refine st101.trans ?_
      show Steps p.tables e below (T101.setTop (mkF m 4 #[.val (.ref a1), .val (.long q2), .second, .val (.long q3), .second] [])) _
      refine XS.aloadN X101.here hx rfl (hb hby d1_4) rfl rfl ?_
      show Steps p.tables e below (T101.setTop (mkF m 5 #[.val (.ref a1), .val (.long q2), .second, .val (.long q3), .second] [(.ref a1)])) _
      refine XS.lloadN X101.here hx rfl (hb hby d1_5) rfl ?_
      show Steps p.tables e below (T101.setTop (mkF m 6 #[.val (.ref a1), .val (.long q2), .second, .val (.long q3), .second] [(.long q2), (.ref a1)])) _
      refine st102 _ ?_
      show Steps p.tables e below (T102.setTop (mkF m 9 #[.val (.ref a1), .val (.long q2), .second, .val (.long q3), .second] [])) _
      refine XS.aloadN X102.here hx rfl (hb hby d1_9) rfl rfl ?_
      show Steps p.tables e below (T102.setTop (mkF m 10 #[.val (.ref a1), .val (.long q2), .second, .val (.long q3), .second] [(.ref a1)])) _
      refine XS.lloadN X102.here hx rfl (hb hby d1_10) rfl ?_
      show Steps p.tables e below (T102.setTop (mkF m 11 #[.val (.ref a1), .val (.long q2), .second, .val (.long q3), .second] [(.long q3), (.ref a1)])) _
      refine st105 _ ?_
      exact k9)
  obtain ⟨fs, hr, hrun, hended, hW, hsame⟩ := X105.leave (v := none) (fun _ => rfl)
  refine ⟨_, _, pre108 _ ?_, hrun, hended, _, _, rfl, ?_, ⟨_, rfl⟩, hW, hsame.mono (by decide) (by decide)⟩
  · show Steps p.tables e below (T105.setTop (mkF m 14 #[.val (.ref a1), .val (.long q2), .second, .val (.long q3), .second] [])) _
    exact X105.returnOut hx Bd.returns (hb hby d1_14) hr
  · show Q1 Z a1 q2 q3 h0 n0 _ T105.heap _
    rw [e105]
    exact ⟨rfl, N105, K105, E106, F107, Fw105⟩
theorem d4_0 : decode prog_46_method_4_code 0 = .ok (.aload_n 0, 1) := by decide +kernel
theorem d4_1 : decode prog_46_method_4_code 1 = .ok (.getfield 13, 3) := by decide +kernel
theorem d4_4 : decode prog_46_method_4_code 4 = .ok (.lconst 0, 1) := by decide +kernel
theorem d4_5 : decode prog_46_method_4_code 5 = .ok (.lcmp, 1) := by decide +kernel
theorem d4_6 : decode prog_46_method_4_code 6 = .ok (.ifCond .le 7, 3) := by decide +kernel
theorem d4_9 : decode prog_46_method_4_code 9 = .ok (.iconst 1, 1) := by decide +kernel
theorem d4_10 : decode prog_46_method_4_code 10 = .ok (.goto 4, 3) := by decide +kernel
theorem d4_13 : decode prog_46_method_4_code 13 = .ok (.iconst 0, 1) := by decide +kernel
theorem d4_14 : decode prog_46_method_4_code 14 = .ok (.ireturn, 1) := by decide +kernel
theorem pn_4 : plainName "com/example/mass_cluster/masscluster/GzipMembers$Place" = true := by first | (simp [plainName, overriddenIn]; done) | decide +kernel
theorem ef_4 (m : MethodId) (a1 : Addr) : entryFrame m #[(.ref a1)] 1 = mkF m 0 #[.val (.ref a1)] [] := by first | (simp [entryFrame, mkF, argsToLocals, Value.category]; done) | rfl
def Q4 (Z : State) (a1 : Addr) (w : Int64) (h0 : Heap) (n0 : Nat) (v : Option Value) (h : Heap) (L : List Loc) : Prop := v = some (.int (own_v4 w)) ∧ Fr n0 L ∧ h = h0
set_option maxRecDepth 65536 in
set_option maxHeartbeats 40000000 in
theorem rm4 (l : Launch) (Z : State) (a0 : Array Value) (hw : ∀ d ∈ tables_1, d.before a0 Z = true) (ws : List Jvm.Cond) (a1 : Addr) (w : Int64) (h0 : Heap) (n0 : Nat) (Z0 : n0 ≤ h0.size) (F_i : Fld Z h0 a1 "com/example/mass_cluster/masscluster/GzipMembers$Place" "inMember" "J" (.long w)) :
    MetFree l (⟨"com/example/mass_cluster/masscluster/GzipMembers$Place", "isPastMemberStart", "()Z"⟩ : MethodName) (head1 (Jvm.Cond.code (⟨"com/example/mass_cluster/masscluster/GzipMembers$Place", "isPastMemberStart", "()Z"⟩ : MethodName) prog_46_method_4_code 1 (some .boolean) :: ws) ({ frames := 0, cells := 0, slots := 0, locals := 0 } : Room)) (fun a U => a = #[(.ref a1)] ∧ Z.Warmed39 U.vm ∧ U.heap = h0) (fun _ _ _ _ _ => True) (fun _ U o U' => ∃ v L, o = .returned v ∧ Q4 Z a1 w h0 n0 v U'.heap L ∧ FrameEnd U o U' L ({ frames := 0, cells := 0, slots := 0, locals := 0 } : Room).cells ({ frames := 0, cells := 0, slots := 0, locals := 0 } : Room).slots) := by
  refine MetFree.of_bodySF (plainFor_of_name pn_4) hisR ?_
  intro p e s m args below meth c s₁ Bd hml0 hP hK
  obtain ⟨rfl, hZ, hh⟩ := hP
  have hx := Bd.exec
  have hby := Bd.bytes
  have hml : c.maxLocals = 1 := hml0
  have hown : s.vm.findClass "com/example/mass_cluster/masscluster/GzipMembers$Place" = some m.cls := findClass_of_methodNamed Bd.named
  have hnm := (name_of_methodNamed Bd.named Bd.method).1
  have X0 : Stand p l e ({ frames := 0, cells := 0, slots := 0, locals := 0 } : Room) s m #[(.ref a1)] below meth c s₁ [] 0 0 := Stand.of_body Bd
  have e0 : s₁.heap = h0 := by rw [← hh, Bd.state]; rfl
  have N0 := Fr.nil n0
  have pre0 : ∀ t, Steps p.tables e below (s₁.setTop (mkF m 0 #[.val (.ref a1)] [])) t → Steps p.tables e below (s₁.setTop (entryFrame m #[(.ref a1)] 1)) t := fun t k => castTop (ef_4 m a1) k
  obtain ⟨T101, X101, e101, st101⟩ := getF X0 hx hZ hown (host := "") (Or.inl (hw _ (List.mem_of_getElem? (i := 17) rfl))) Via.refl e0 F_i (g := (mkF m 1 #[.val (.ref a1)] [(.ref a1)])) rfl rfl (hb hby d4_1)
  have pre102 : ∀ t, Steps p.tables e below (T101.setTop (mkF m 6 #[.val (.ref a1)] [(.int (lcmpW w (0 : Int64)))])) t → Steps p.tables e below (s₁.setTop (entryFrame m #[(.ref a1)] 1)) t := fun t9 k9 => pre0 t9 (by
      show Steps p.tables e below (s₁.setTop (mkF m 0 #[.val (.ref a1)] [])) _
      refine XS.aloadN X0.here hx rfl (hb hby d4_0) rfl rfl ?_
      show Steps p.tables e below (s₁.setTop (mkF m 1 #[.val (.ref a1)] [(.ref a1)])) _
      refine st101 _ ?_
      show Steps p.tables e below (T101.setTop (mkF m 4 #[.val (.ref a1)] [(.long w)])) _
      refine XS.lconst X101.here hx rfl (hb hby d4_4) ?_
      show Steps p.tables e below (T101.setTop (mkF m 5 #[.val (.ref a1)] [(.long (0 : Int64)), (.long w)])) _
      refine XS.lcmp X101.here hx rfl (hb hby d4_5) rfl ?_
      exact k9)
  by_cases b103 : (0 : Int) < w.toInt
  · have pre104 : ∀ t, Steps p.tables e below (T101.setTop (mkF m 14 #[.val (.ref a1)] [(.int (1 : Int32))])) t → Steps p.tables e below (s₁.setTop (entryFrame m #[(.ref a1)] 1)) t := fun t9 k9 => pre102 t9 (by
        show Steps p.tables e below (T101.setTop (mkF m 6 #[.val (.ref a1)] [(.int (lcmpW w (0 : Int64)))])) _
        refine XS.ifNo X101.here hx rfl (hb hby d4_6) rfl (own_Lle_f (a := w.toInt) (b := (0 : Int)) rfl (by decide) b103) ?_
        show Steps p.tables e below (T101.setTop (mkF m 9 #[.val (.ref a1)] [])) _
        refine XS.iconst X101.here hx rfl (hb hby d4_9) ?_
        show Steps p.tables e below (T101.setTop (mkF m 10 #[.val (.ref a1)] [(.int (1 : Int32))])) _
        refine XS.goto X101.here hx rfl (pc0 := 10) (pc' := 14) rfl (hb hby d4_10) (by decide) (by decide) ?_
        exact k9)
    have hv : own_v4 w = (1 : Int32) := by unfold own_v4; exact if_pos (by omega)
    obtain ⟨fs, hr, hrun, hended, hW, hsame⟩ := X101.leave (v := some (.int (1 : Int32))) (fun h => by rw [Bd.returns] at h; cases h)
    refine ⟨_, _, pre104 _ ?_, hrun, hended, _, _, rfl, ?_, ⟨_, rfl⟩, hW, hsame.mono (by decide) (by decide)⟩
    · show Steps p.tables e below (T101.setTop (mkF m 14 #[.val (.ref a1)] [(.int (1 : Int32))])) _
      exact retN X101 hx (t := .boolean) Bd.returns (by simp) (hb hby d4_14) hr
    · show Q4 Z a1 w h0 n0 _ T101.heap _
      rw [e101]
      exact ⟨by rw [hv], N0, rfl⟩
  · have pre105 : ∀ t, Steps p.tables e below (T101.setTop (mkF m 14 #[.val (.ref a1)] [(.int (0 : Int32))])) t → Steps p.tables e below (s₁.setTop (entryFrame m #[(.ref a1)] 1)) t := fun t9 k9 => pre102 t9 (by
        show Steps p.tables e below (T101.setTop (mkF m 6 #[.val (.ref a1)] [(.int (lcmpW w (0 : Int64)))])) _
        refine XS.ifYes X101.here hx rfl (pc0 := 6) (pc' := 13) rfl (hb hby d4_6) rfl (own_Lle_t (a := w.toInt) (b := (0 : Int)) rfl (by decide) b103) (by decide) (by decide) ?_
        show Steps p.tables e below (T101.setTop (mkF m 13 #[.val (.ref a1)] [])) _
        refine XS.iconst X101.here hx rfl (hb hby d4_13) ?_
        exact k9)
    have hv : own_v4 w = (0 : Int32) := by unfold own_v4; exact if_neg (by omega)
    obtain ⟨fs, hr, hrun, hended, hW, hsame⟩ := X101.leave (v := some (.int (0 : Int32))) (fun h => by rw [Bd.returns] at h; cases h)
    refine ⟨_, _, pre105 _ ?_, hrun, hended, _, _, rfl, ?_, ⟨_, rfl⟩, hW, hsame.mono (by decide) (by decide)⟩
    · show Steps p.tables e below (T101.setTop (mkF m 14 #[.val (.ref a1)] [(.int (0 : Int32))])) _
      exact retN X101 hx (t := .boolean) Bd.returns (by simp) (hb hby d4_14) hr
    · show Q4 Z a1 w h0 n0 _ T101.heap _
      rw [e101]
      exact ⟨by rw [hv], N0, rfl⟩
theorem d5_0 : decode prog_46_method_3_code 0 = .ok (.aload_n 0, 1) := by decide +kernel
theorem d5_1 : decode prog_46_method_3_code 1 = .ok (.getfield 13, 3) := by decide +kernel
theorem d5_4 : decode prog_46_method_3_code 4 = .ok (.ldc2_w 16, 3) := by decide +kernel
theorem d5_7 : decode prog_46_method_3_code 7 = .ok (.lcmp, 1) := by decide +kernel
theorem d5_8 : decode prog_46_method_3_code 8 = .ok (.ifCond .eq 7, 3) := by decide +kernel
theorem d5_11 : decode prog_46_method_3_code 11 = .ok (.iconst 1, 1) := by decide +kernel
theorem d5_12 : decode prog_46_method_3_code 12 = .ok (.goto 4, 3) := by decide +kernel
theorem d5_15 : decode prog_46_method_3_code 15 = .ok (.iconst 0, 1) := by decide +kernel
theorem d5_16 : decode prog_46_method_3_code 16 = .ok (.ireturn, 1) := by decide +kernel
theorem pn_5 : plainName "com/example/mass_cluster/masscluster/GzipMembers$Place" = true := by first | (simp [plainName, overriddenIn]; done) | decide +kernel
theorem ef_5 (m : MethodId) (a1 : Addr) : entryFrame m #[(.ref a1)] 1 = mkF m 0 #[.val (.ref a1)] [] := by first | (simp [entryFrame, mkF, argsToLocals, Value.category]; done) | rfl
def Q5 (Z : State) (a1 : Addr) (w : Int64) (h0 : Heap) (n0 : Nat) (v : Option Value) (h : Heap) (L : List Loc) : Prop := v = some (.int (own_v5 w)) ∧ Fr n0 L ∧ h = h0
set_option maxRecDepth 65536 in
set_option maxHeartbeats 40000000 in
theorem rm5 (l : Launch) (Z : State) (a0 : Array Value) (hw : ∀ d ∈ tables_1, d.before a0 Z = true) (ws : List Jvm.Cond) (a1 : Addr) (w : Int64) (h0 : Heap) (n0 : Nat) (Z0 : n0 ≤ h0.size) (F_i : Fld Z h0 a1 "com/example/mass_cluster/masscluster/GzipMembers$Place" "inMember" "J" (.long w)) :
    MetFree l (⟨"com/example/mass_cluster/masscluster/GzipMembers$Place", "isInMember", "()Z"⟩ : MethodName) (head1 (Jvm.Cond.code (⟨"com/example/mass_cluster/masscluster/GzipMembers$Place", "isInMember", "()Z"⟩ : MethodName) prog_46_method_3_code 1 (some .boolean) :: ws) ({ frames := 0, cells := 0, slots := 0, locals := 0 } : Room)) (fun a U => a = #[(.ref a1)] ∧ Z.Warmed39 U.vm ∧ U.heap = h0) (fun _ _ _ _ _ => True) (fun _ U o U' => ∃ v L, o = .returned v ∧ Q5 Z a1 w h0 n0 v U'.heap L ∧ FrameEnd U o U' L ({ frames := 0, cells := 0, slots := 0, locals := 0 } : Room).cells ({ frames := 0, cells := 0, slots := 0, locals := 0 } : Room).slots) := by
  refine MetFree.of_bodySF (plainFor_of_name pn_5) hisR ?_
  intro p e s m args below meth c s₁ Bd hml0 hP hK
  obtain ⟨rfl, hZ, hh⟩ := hP
  have hx := Bd.exec
  have hby := Bd.bytes
  have hml : c.maxLocals = 1 := hml0
  have hown : s.vm.findClass "com/example/mass_cluster/masscluster/GzipMembers$Place" = some m.cls := findClass_of_methodNamed Bd.named
  have hnm := (name_of_methodNamed Bd.named Bd.method).1
  have X0 : Stand p l e ({ frames := 0, cells := 0, slots := 0, locals := 0 } : Room) s m #[(.ref a1)] below meth c s₁ [] 0 0 := Stand.of_body Bd
  have e0 : s₁.heap = h0 := by rw [← hh, Bd.state]; rfl
  have N0 := Fr.nil n0
  have pre0 : ∀ t, Steps p.tables e below (s₁.setTop (mkF m 0 #[.val (.ref a1)] [])) t → Steps p.tables e below (s₁.setTop (entryFrame m #[(.ref a1)] 1)) t := fun t k => castTop (ef_5 m a1) k
  obtain ⟨T101, X101, e101, st101⟩ := getF X0 hx hZ hown (host := "") (Or.inl (hw _ (List.mem_of_getElem? (i := 17) rfl))) Via.refl e0 F_i (g := (mkF m 1 #[.val (.ref a1)] [(.ref a1)])) rfl rfl (hb hby d5_1)
  have pre102 : ∀ t, Steps p.tables e below (T101.setTop (mkF m 8 #[.val (.ref a1)] [(.int (lcmpW w (-1 : Int64)))])) t → Steps p.tables e below (s₁.setTop (entryFrame m #[(.ref a1)] 1)) t := fun t9 k9 => pre0 t9 (by
      show Steps p.tables e below (s₁.setTop (mkF m 0 #[.val (.ref a1)] [])) _
      refine XS.aloadN X0.here hx rfl (hb hby d5_0) rfl rfl ?_
      show Steps p.tables e below (s₁.setTop (mkF m 1 #[.val (.ref a1)] [(.ref a1)])) _
      refine st101 _ ?_
      show Steps p.tables e below (T101.setTop (mkF m 4 #[.val (.ref a1)] [(.long w)])) _
      refine X101.ldc2Long hx hown (mvT hZ (hw _ (List.mem_of_getElem? (i := 29) rfl))) (g := (mkF m 4 #[.val (.ref a1)] [(.long w)])) rfl (hb hby d5_4) _ ?_
      show Steps p.tables e below (T101.setTop (mkF m 7 #[.val (.ref a1)] [(.long (-1 : Int64)), (.long w)])) _
      refine XS.lcmp X101.here hx rfl (hb hby d5_7) rfl ?_
      exact k9)
  by_cases b103 : w.toInt = (-1 : Int)
  · have pre104 : ∀ t, Steps p.tables e below (T101.setTop (mkF m 16 #[.val (.ref a1)] [(.int (0 : Int32))])) t → Steps p.tables e below (s₁.setTop (entryFrame m #[(.ref a1)] 1)) t := fun t9 k9 => pre102 t9 (by
        show Steps p.tables e below (T101.setTop (mkF m 8 #[.val (.ref a1)] [(.int (lcmpW w (-1 : Int64)))])) _
        refine XS.ifYes X101.here hx rfl (pc0 := 8) (pc' := 15) rfl (hb hby d5_8) rfl (own_Leq_t (a := w.toInt) (b := (-1 : Int)) rfl (by decide) b103) (by decide) (by decide) ?_
        show Steps p.tables e below (T101.setTop (mkF m 15 #[.val (.ref a1)] [])) _
        refine XS.iconst X101.here hx rfl (hb hby d5_15) ?_
        exact k9)
    have hv : own_v5 w = (0 : Int32) := by unfold own_v5; exact if_pos (by omega)
    obtain ⟨fs, hr, hrun, hended, hW, hsame⟩ := X101.leave (v := some (.int (0 : Int32))) (fun h => by rw [Bd.returns] at h; cases h)
    refine ⟨_, _, pre104 _ ?_, hrun, hended, _, _, rfl, ?_, ⟨_, rfl⟩, hW, hsame.mono (by decide) (by decide)⟩
    · show Steps p.tables e below (T101.setTop (mkF m 16 #[.val (.ref a1)] [(.int (0 : Int32))])) _
      exact retN X101 hx (t := .boolean) Bd.returns (by simp) (hb hby d5_16) hr
    · show Q5 Z a1 w h0 n0 _ T101.heap _
      rw [e101]
      exact ⟨by rw [hv], N0, rfl⟩
  · have pre105 : ∀ t, Steps p.tables e below (T101.setTop (mkF m 16 #[.val (.ref a1)] [(.int (1 : Int32))])) t → Steps p.tables e below (s₁.setTop (entryFrame m #[(.ref a1)] 1)) t := fun t9 k9 => pre102 t9 (by
        show Steps p.tables e below (T101.setTop (mkF m 8 #[.val (.ref a1)] [(.int (lcmpW w (-1 : Int64)))])) _
        refine XS.ifNo X101.here hx rfl (hb hby d5_8) rfl (own_Leq_f (a := w.toInt) (b := (-1 : Int)) rfl (by decide) b103) ?_
        show Steps p.tables e below (T101.setTop (mkF m 11 #[.val (.ref a1)] [])) _
        refine XS.iconst X101.here hx rfl (hb hby d5_11) ?_
        show Steps p.tables e below (T101.setTop (mkF m 12 #[.val (.ref a1)] [(.int (1 : Int32))])) _
        refine XS.goto X101.here hx rfl (pc0 := 12) (pc' := 16) rfl (hb hby d5_12) (by decide) (by decide) ?_
        exact k9)
    have hv : own_v5 w = (1 : Int32) := by unfold own_v5; exact if_neg (by omega)
    obtain ⟨fs, hr, hrun, hended, hW, hsame⟩ := X101.leave (v := some (.int (1 : Int32))) (fun h => by rw [Bd.returns] at h; cases h)
    refine ⟨_, _, pre105 _ ?_, hrun, hended, _, _, rfl, ?_, ⟨_, rfl⟩, hW, hsame.mono (by decide) (by decide)⟩
    · show Steps p.tables e below (T101.setTop (mkF m 16 #[.val (.ref a1)] [(.int (1 : Int32))])) _
      exact retN X101 hx (t := .boolean) Bd.returns (by simp) (hb hby d5_16) hr
    · show Q5 Z a1 w h0 n0 _ T101.heap _
      rw [e101]
      exact ⟨by rw [hv], N0, rfl⟩
theorem d6_0 : decode prog_46_method_2_code 0 = .ok (.new 8, 3) := by decide +kernel
theorem d6_3 : decode prog_46_method_2_code 3 = .ok (.dup, 1) := by decide +kernel
theorem d6_4 : decode prog_46_method_2_code 4 = .ok (.lload_n 0, 1) := by decide +kernel
theorem d6_5 : decode prog_46_method_2_code 5 = .ok (.ldc2_w 16, 3) := by decide +kernel
theorem d6_8 : decode prog_46_method_2_code 8 = .ok (.invokespecial 18, 3) := by decide +kernel
theorem d6_11 : decode prog_46_method_2_code 11 = .ok (.areturn, 1) := by decide +kernel
theorem pd_6_0 : parseMethodDescriptor "(JJ)V" = some ⟨[.long, .long], none⟩ := by decide +kernel
theorem pn_6 : plainName "com/example/mass_cluster/masscluster/GzipMembers$Place" = true := by first | (simp [plainName, overriddenIn]; done) | decide +kernel
theorem ef_6 (m : MethodId) (q1 : Int64) : entryFrame m #[(.long q1)] 2 = mkF m 0 #[.val (.long q1), .second] [] := by first | (simp [entryFrame, mkF, argsToLocals, Value.category]; done) | rfl
def Q6 (Z : State) (q1 : Int64) (h0 : Heap) (n0 : Nat) (v : Option Value) (h : Heap) (L : List Loc) : Prop := ∃ b, v = some (.ref b) ∧ Fr n0 L ∧ Keep h0 h [] ∧ h0.size ≤ b ∧ Exa Z h b "com/example/mass_cluster/masscluster/GzipMembers$Place" ∧ Fld Z h b "com/example/mass_cluster/masscluster/GzipMembers$Place" "inMember" "J" (.long (-1 : Int64))
set_option maxRecDepth 65536 in
set_option maxHeartbeats 40000000 in
theorem rm6 (l : Launch) (Z : State) (a0 : Array Value) (hw : ∀ d ∈ tables_1, d.before a0 Z = true) (ws : List Jvm.Cond) (q1 : Int64) (h0 : Heap) (n0 : Nat) (Z0 : n0 ≤ h0.size)  :
    MetFree l (⟨"com/example/mass_cluster/masscluster/GzipMembers$Place", "inFile", "(J)Lcom/example/mass_cluster/masscluster/GzipMembers$Place;"⟩ : MethodName) (head1 (Jvm.Cond.code (⟨"com/example/mass_cluster/masscluster/GzipMembers$Place", "inFile", "(J)Lcom/example/mass_cluster/masscluster/GzipMembers$Place;"⟩ : MethodName) prog_46_method_2_code 2 (some (.object "com/example/mass_cluster/masscluster/GzipMembers$Place")) :: ws) ({ frames := 3, cells := 1, slots := 2, locals := 41 } : Room)) (fun a U => a = #[(.long q1)] ∧ Z.Warmed39 U.vm ∧ U.heap = h0) (fun _ _ _ _ _ => True) (fun _ U o U' => ∃ v L, o = .returned v ∧ Q6 Z q1 h0 n0 v U'.heap L ∧ FrameEnd U o U' L ({ frames := 3, cells := 1, slots := 2, locals := 41 } : Room).cells ({ frames := 3, cells := 1, slots := 2, locals := 41 } : Room).slots) := by
  refine MetFree.of_bodySF (plainFor_of_name pn_6) hisR ?_
  intro p e s m args below meth c s₁ Bd hml0 hP hK
  obtain ⟨rfl, hZ, hh⟩ := hP
  have hx := Bd.exec
  have hby := Bd.bytes
  have hml : c.maxLocals = 2 := hml0
  have hown : s.vm.findClass "com/example/mass_cluster/masscluster/GzipMembers$Place" = some m.cls := findClass_of_methodNamed Bd.named
  have hnm := (name_of_methodNamed Bd.named Bd.method).1
  have X0 : Stand p l e ({ frames := 3, cells := 1, slots := 2, locals := 41 } : Room) s m #[(.long q1)] below meth c s₁ [] 0 0 := Stand.of_body Bd
  have e0 : s₁.heap = h0 := by rw [← hh, Bd.state]; rfl
  have N0 := Fr.nil n0
  have pre0 : ∀ t, Steps p.tables e below (s₁.setTop (mkF m 0 #[.val (.long q1), .second] [])) t → Steps p.tables e below (s₁.setTop (entryFrame m #[(.long q1)] 2)) t := fun t k => castTop (ef_6 m q1) k
  obtain ⟨T101, h101, X101, e101, E101, A101, D101, -, st101⟩ := newO X0 hx hZ hown (hw _ (List.mem_of_getElem? (i := 33) rfl)) (hw _ (List.mem_of_getElem? (i := 2) rfl)) (hw _ (List.mem_of_getElem? (i := 3) rfl)) e0 (g := (mkF m 0 #[.val (.long q1), .second] [])) rfl (hb hby d6_0) (by decide) (by decide)
  obtain ⟨b101, g101⟩ : ∃ z, z = h0.size := ⟨_, rfl⟩
  rw [← g101] at A101 D101 st101
  have g_b101 : n0 ≤ b101 := Nat.le_trans Z0 (Nat.le_of_eq g101.symm)
  have sz_b101 : h0.size ≤ b101 := Nat.le_trans (Keep.refl h0 []).1 (Nat.le_of_eq g101.symm)
  have F101_offset : Fld Z h101 b101 "com/example/mass_cluster/masscluster/GzipMembers$Place" "offset" "J" (.long (0 : Int64)) := D101 (Or.inr (hw _ (List.mem_of_getElem? (i := 16) rfl))) (ty := .long) (by decide)
  have F101_inMember : Fld Z h101 b101 "com/example/mass_cluster/masscluster/GzipMembers$Place" "inMember" "J" (.long (0 : Int64)) := D101 (Or.inr (hw _ (List.mem_of_getElem? (i := 18) rfl))) (ty := .long) (by decide)
  have K101 := (Keep.refl h0 []).ext E101
  have Z101 : n0 ≤ h101.size := Nat.le_trans Z0 E101.1
  obtain ⟨_, _, ⟨T102, L102, k102, n102⟩, -, X102, ⟨Lc102, hQ102, l102, y102, z102⟩, st102⟩ := X101.specialBack hx (y := (⟨"com/example/mass_cluster/masscluster/GzipMembers$Place", "<init>", "(JJ)V"⟩ : MethodName)) rfl hown (mvT hZ (hw _ (List.mem_of_getElem? (i := 34) rfl))) (mvT hZ (hw _ (List.mem_of_getElem? (i := 5) rfl))) (mvT hZ (hw _ (List.mem_of_getElem? (i := 6) rfl))) (by decide) (backOf (W := 1) (rm1 l Z a0 hw [] b101 q1 (-1 : Int64) h101 n0 Z101 A101 F101_offset F101_inMember g_b101) hZ (hw _ (List.mem_of_getElem? (i := 6) rfl)) (hw _ (List.mem_of_getElem? (i := 3) rfl)) (by decide) (by decide)) (g := (mkF m 8 #[.val (.long q1), .second] [(.long (-1 : Int64)), (.long q1), (.ref b101), (.ref b101)])) rfl (by rw [hml]; rfl) (Steps.refl _) (a := b101) (argsL := [(.long q1), (.long (-1 : Int64))]) (rest := [(.ref b101)]) (lenOf pd_6_0 rfl) rfl (by show 2 * 0 + _ ≤ _; exact Nat.le_of_eq rfl) (hb hby d6_8) (fun _ _ => ⟨rfl, e101, (by decide : 1 + 0 ≤ _), (by decide : 2 + 0 ≤ _)⟩)
  dsimp only [Pt.U, Pt.locs, Pt.cells, Pt.slots] at X102 l102 y102 z102 st102 hQ102
  subst l102 y102 z102
  obtain ⟨hv102, N102q, K102, E102x, F102_offset, F102_inMember⟩ := hQ102
  subst hv102
  have N102 := Fr.app N0 N102q
  have Ek103 := A101.keep K102
  have KK102 := K101.trans K102 (allS (Or.inr sz_b101) all0)
  have Z102 : n0 ≤ T102.heap.size := Nat.le_trans Z101 K102.1
  have pre104 : ∀ t, Steps p.tables e below (T102.setTop (mkF m 11 #[.val (.long q1), .second] [(.ref b101)])) t → Steps p.tables e below (s₁.setTop (entryFrame m #[(.long q1)] 2)) t := fun t9 k9 => pre0 t9 (by
      show Steps p.tables e below (s₁.setTop (mkF m 0 #[.val (.long q1), .second] [])) _
      refine st101 _ ?_
      show Steps p.tables e below (T101.setTop (mkF m 3 #[.val (.long q1), .second] [(.ref b101)])) _
      refine XS.dup X101.here hx rfl (hb hby d6_3) rfl rfl ?_
      show Steps p.tables e below (T101.setTop (mkF m 4 #[.val (.long q1), .second] [(.ref b101), (.ref b101)])) _
      refine XS.lloadN X101.here hx rfl (hb hby d6_4) rfl ?_
      show Steps p.tables e below (T101.setTop (mkF m 5 #[.val (.long q1), .second] [(.long q1), (.ref b101), (.ref b101)])) _
      refine X101.ldc2Long hx hown (mvT hZ (hw _ (List.mem_of_getElem? (i := 29) rfl))) (g := (mkF m 5 #[.val (.long q1), .second] [(.long q1), (.ref b101), (.ref b101)])) rfl (hb hby d6_5) _ ?_
      show Steps p.tables e below (T101.setTop (mkF m 8 #[.val (.long q1), .second] [(.long (-1 : Int64)), (.long q1), (.ref b101), (.ref b101)])) _
      refine st102.trans ?_
      exact k9)
  obtain ⟨fs, hr, hrun, hended, hW, hsame⟩ := X102.leave (v := some (.ref b101)) (fun h => by rw [Bd.returns] at h; cases h)
  refine ⟨_, _, pre104 _ ?_, hrun, hended, _, _, rfl, ?_, ⟨_, rfl⟩, hW, hsame.mono (by decide) (by decide)⟩
  · show Steps p.tables e below (T102.setTop (mkF m 11 #[.val (.long q1), .second] [(.ref b101)])) _
    jvm_step X102.here [X102.here.top, hx, (hb hby d6_11), X102.method', Bd.returns, Value.isRef, FieldType.isReference]
    first | (intro acts; rw [hr _ acts rfl rfl rfl]) | rw [hr _ _ rfl rfl rfl]
    exact Steps.refl _
  · show Q6 Z q1 h0 n0 _ T102.heap _
    exact ⟨_, rfl, N102, KK102, sz_b101, E102x, F102_inMember⟩
theorem pd_0_0 : parseMethodDescriptor "(JJ)V" = some ⟨[.long, .long], none⟩ := by decide +kernel
theorem pd_0_1 : parseMethodDescriptor "()Z" = some ⟨[], some .boolean⟩ := by decide +kernel
theorem pd_0_2 : parseMethodDescriptor "(J)Lcom/example/mass_cluster/masscluster/GzipMembers$Place;" = some ⟨[.long], some (.object "com/example/mass_cluster/masscluster/GzipMembers$Place")⟩ := by decide +kernel
theorem pn_0 : plainName "com/example/mass_cluster/masscluster/PlaceIsPastMemberStartPinLaw" = true := by first | (simp [plainName, overriddenIn]; done) | decide +kernel
theorem ef_0 (m : MethodId) (q1 : Int64) (q2 : Int64) (p3 : Int32) : entryFrame m #[(.long q1), (.long q2), (.int p3)] maxLocals = mkF m 0 #[.val (.long q1), .second, .val (.long q2), .second, .val (.int p3), .unset, .unset, .unset, .unset, .unset, .unset, .unset, .unset] [] := by first | (simp [entryFrame, mkF, argsToLocals, Value.category, maxLocals]; done) | rfl
def Q0 (Z : State) (q1 : Int64) (q2 : Int64) (p3 : Int32) (h0 : Heap) (n0 : Nat) (v : Option Value) (h : Heap) (L : List Loc) : Prop := v = some (.int 1) ∧ Fr n0 L
set_option maxRecDepth 65536 in
set_option maxHeartbeats 40000000 in
theorem rm0 (l : Launch) (Z : State) (a0 : Array Value) (hw : ∀ d ∈ tables_1, d.before a0 Z = true) (ws : List Jvm.Cond) (q1 : Int64) (q2 : Int64) (p3 : Int32) (h0 : Heap) (n0 : Nat) (Z0 : n0 ≤ h0.size)  :
    MetFree l x (head1 (Jvm.Cond.code x code maxLocals ret :: ws) room_1) (fun a U => a = #[(.long q1), (.long q2), (.int p3)] ∧ Z.Warmed39 U.vm ∧ U.heap = h0) (fun _ _ _ _ _ => True) (fun _ U o U' => ∃ v L, o = .returned v ∧ Q0 Z q1 q2 p3 h0 n0 v U'.heap L ∧ FrameEnd U o U' L room_1.cells room_1.slots) := by
  refine MetFree.of_bodySF (plainFor_of_name pn_0) hisR ?_
  intro p e s m args below meth c s₁ Bd hml0 hP hK
  obtain ⟨rfl, hZ, hh⟩ := hP
  have hx := Bd.exec
  have hby := Bd.bytes
  have hml : c.maxLocals = 13 := hml0
  have hown : s.vm.findClass "com/example/mass_cluster/masscluster/PlaceIsPastMemberStartPinLaw" = some m.cls := findClass_of_methodNamed Bd.named
  have hnm := (name_of_methodNamed Bd.named Bd.method).1
  have X0 : Stand p l e room_1 s m #[(.long q1), (.long q2), (.int p3)] below meth c s₁ [] 0 0 := Stand.of_body Bd
  have e0 : s₁.heap = h0 := by rw [← hh, Bd.state]; rfl
  have N0 := Fr.nil n0
  have pre0 : ∀ t, Steps p.tables e below (s₁.setTop (mkF m 0 #[.val (.long q1), .second, .val (.long q2), .second, .val (.int p3), .unset, .unset, .unset, .unset, .unset, .unset, .unset, .unset] [])) t → Steps p.tables e below (s₁.setTop (entryFrame m #[(.long q1), (.long q2), (.int p3)] maxLocals)) t := fun t k => castTop (ef_0 m q1 q2 p3) k
  have hm0 := (c_andSL q2 (9223372036854775807 : Int64)).2.2 (by decide)
  have pre101 : ∀ t, Steps p.tables e below (s₁.setTop (mkF m 8 #[.val (.long q1), .second, .val (.long q2), .second, .val (.int p3), .val (.int (p3 &&& (3 : Int32))), .unset, .unset, .unset, .unset, .unset, .unset, .unset] [(.int (p3 &&& (3 : Int32)))])) t → Steps p.tables e below (s₁.setTop (entryFrame m #[(.long q1), (.long q2), (.int p3)] maxLocals)) t := fun t9 k9 => pre0 t9 (by
      show Steps p.tables e below (s₁.setTop (mkF m 0 #[.val (.long q1), .second, .val (.long q2), .second, .val (.int p3), .unset, .unset, .unset, .unset, .unset, .unset, .unset, .unset] [])) _
      refine XS.iload X0.here hx rfl (hb hby at_0) rfl ?_
      show Steps p.tables e below (s₁.setTop (mkF m 2 #[.val (.long q1), .second, .val (.long q2), .second, .val (.int p3), .unset, .unset, .unset, .unset, .unset, .unset, .unset, .unset] [(.int p3)])) _
      refine XS.iconst X0.here hx rfl (hb hby at_2) ?_
      show Steps p.tables e below (s₁.setTop (mkF m 3 #[.val (.long q1), .second, .val (.long q2), .second, .val (.int p3), .unset, .unset, .unset, .unset, .unset, .unset, .unset, .unset] [(.int (3 : Int32)), (.int p3)])) _
      refine XS.iand X0.here hx rfl (hb hby at_3) rfl ?_
      show Steps p.tables e below (s₁.setTop (mkF m 4 #[.val (.long q1), .second, .val (.long q2), .second, .val (.int p3), .unset, .unset, .unset, .unset, .unset, .unset, .unset, .unset] [(.int (p3 &&& (3 : Int32)))])) _
      refine XS.istore X0.here hx rfl (hb hby at_4) rfl (l' := #[.val (.long q1), .second, .val (.long q2), .second, .val (.int p3), .val (.int (p3 &&& (3 : Int32))), .unset, .unset, .unset, .unset, .unset, .unset, .unset]) rfl ?_
      show Steps p.tables e below (s₁.setTop (mkF m 6 #[.val (.long q1), .second, .val (.long q2), .second, .val (.int p3), .val (.int (p3 &&& (3 : Int32))), .unset, .unset, .unset, .unset, .unset, .unset, .unset] [])) _
      refine XS.iload X0.here hx rfl (hb hby at_6) rfl ?_
      exact k9)
  by_cases b102 : (p3 &&& (3 : Int32)).toInt = (0 : Int)
  · obtain ⟨T103, h103, X103, e103, E103, A103, D103, -, st103⟩ := newO X0 hx hZ hown (hw _ (List.mem_of_getElem? (i := 1) rfl)) (hw _ (List.mem_of_getElem? (i := 2) rfl)) (hw _ (List.mem_of_getElem? (i := 3) rfl)) e0 (g := (mkF m 38 #[.val (.long q1), .second, .val (.long q2), .second, .val (.int p3), .val (.int (p3 &&& (3 : Int32))), .val (.long (-1 : Int64)), .second, .unset, .unset, .unset, .unset, .unset] [])) rfl (hb hby at_38) (by decide) (by decide)
    obtain ⟨b103, g103⟩ : ∃ z, z = h0.size := ⟨_, rfl⟩
    rw [← g103] at A103 D103 st103
    have g_b103 : n0 ≤ b103 := Nat.le_trans Z0 (Nat.le_of_eq g103.symm)
    have sz_b103 : h0.size ≤ b103 := Nat.le_trans (Keep.refl h0 []).1 (Nat.le_of_eq g103.symm)
    have F103_offset : Fld Z h103 b103 "com/example/mass_cluster/masscluster/GzipMembers$Place" "offset" "J" (.long (0 : Int64)) := D103 (Or.inr (hw _ (List.mem_of_getElem? (i := 16) rfl))) (ty := .long) (by decide)
    have F103_inMember : Fld Z h103 b103 "com/example/mass_cluster/masscluster/GzipMembers$Place" "inMember" "J" (.long (0 : Int64)) := D103 (Or.inr (hw _ (List.mem_of_getElem? (i := 18) rfl))) (ty := .long) (by decide)
    have K103 := (Keep.refl h0 []).ext E103
    have Z103 : n0 ≤ h103.size := Nat.le_trans Z0 E103.1
    obtain ⟨_, _, ⟨T104, L104, k104, n104⟩, -, X104, ⟨Lc104, hQ104, l104, y104, z104⟩, st104⟩ := X103.specialBack hx (y := (⟨"com/example/mass_cluster/masscluster/GzipMembers$Place", "<init>", "(JJ)V"⟩ : MethodName)) rfl hown (mvT hZ (hw _ (List.mem_of_getElem? (i := 4) rfl))) (mvT hZ (hw _ (List.mem_of_getElem? (i := 5) rfl))) (mvT hZ (hw _ (List.mem_of_getElem? (i := 6) rfl))) (by decide) (backOf (W := 1) (rm1 l Z a0 hw [] b103 q1 (-1 : Int64) h103 n0 Z103 A103 F103_offset F103_inMember g_b103) hZ (hw _ (List.mem_of_getElem? (i := 6) rfl)) (hw _ (List.mem_of_getElem? (i := 3) rfl)) (by decide) (by decide)) (g := (mkF m 45 #[.val (.long q1), .second, .val (.long q2), .second, .val (.int p3), .val (.int (p3 &&& (3 : Int32))), .val (.long (-1 : Int64)), .second, .unset, .unset, .unset, .unset, .unset] [(.long (-1 : Int64)), (.long q1), (.ref b103), (.ref b103)])) rfl (by rw [hml]; rfl) (Steps.refl _) (a := b103) (argsL := [(.long q1), (.long (-1 : Int64))]) (rest := [(.ref b103)]) (lenOf pd_0_0 rfl) rfl (by show 2 * 0 + _ ≤ _; exact Nat.le_of_eq rfl) (hb hby at_45) (fun _ _ => ⟨rfl, e103, (by decide : 1 + 0 ≤ _), (by decide : 2 + 0 ≤ _)⟩)
    dsimp only [Pt.U, Pt.locs, Pt.cells, Pt.slots] at X104 l104 y104 z104 st104 hQ104
    subst l104 y104 z104
    obtain ⟨hv104, N104q, K104, E104x, F104_offset, F104_inMember⟩ := hQ104
    subst hv104
    have N104 := Fr.app N0 N104q
    have Ek105 := A103.keep K104
    have KK104 := K103.trans K104 (allS (Or.inr sz_b103) all0)
    have Z104 : n0 ≤ T104.heap.size := Nat.le_trans Z103 K104.1
    obtain ⟨cq106, kq106, q106a, q106b, q106c⟩ := isOf hZ rfl E104x
    obtain ⟨_, _, ⟨T106, L106, k106, n106⟩, -, X106, ⟨Lc106, hQ106, l106, y106, z106⟩, st106⟩ := X104.virtualBack hx (y := (⟨"com/example/mass_cluster/masscluster/GzipMembers$Place", "isPastMemberStart", "()Z"⟩ : MethodName)) (z := (⟨"com/example/mass_cluster/masscluster/GzipMembers$Place", "isPastMemberStart", "()Z"⟩ : MethodName)) hown (mvT hZ (hw _ (List.mem_of_getElem? (i := 19) rfl))) (mvT hZ (hw _ (List.mem_of_getElem? (i := 20) rfl))) (notFace_of_selects (args := #[]) (mvT hZ (hw _ (List.mem_of_getElem? (i := 22) rfl)))) (mvT hZ (hw _ (List.mem_of_getElem? (i := 22) rfl))) (mvT hZ (hw _ (List.mem_of_getElem? (i := 21) rfl))) (by decide) (backOf (W := 0) (rm4 l Z a0 hw [] b103 (-1 : Int64) T104.heap n0 Z104 F104_inMember) hZ (hw _ (List.mem_of_getElem? (i := 23) rfl)) (hw _ (List.mem_of_getElem? (i := 3) rfl)) (by decide) (by decide)) q106a q106c (g := (mkF m 52 #[.val (.long q1), .second, .val (.long q2), .second, .val (.int p3), .val (.int (p3 &&& (3 : Int32))), .val (.long (-1 : Int64)), .second, .val (.ref b103), .unset, .unset, .unset, .unset] [(.ref b103)])) rfl (by rw [hml]; rfl) (Steps.refl _) (argsL := []) (rest := []) (lenOf pd_0_1 rfl) rfl (by show 2 * 0 + _ ≤ _; exact Nat.le_of_eq rfl) (hb hby at_52) (fun _ _ => ⟨rfl, rfl, (by decide : 1 + 0 ≤ _), (by decide : 2 + 0 ≤ _)⟩)
    dsimp only [Pt.U, Pt.locs, Pt.cells, Pt.slots] at X106 l106 y106 z106 st106 hQ106
    subst l106 y106 z106
    obtain ⟨hv106, N106q, e106⟩ := hQ106
    have r106 : (own_v4 (-1 : Int64)) = (0 : Int32) := by decide
    rw [r106] at hv106
    subst hv106
    have N106 := Fr.app N104 N106q
    have pre107 : ∀ t, Steps p.tables e below (T106.setTop (mkF m 59 #[.val (.long q1), .second, .val (.long q2), .second, .val (.int p3), .val (.int (p3 &&& (3 : Int32))), .val (.long (-1 : Int64)), .second, .val (.ref b103), .val (.int (0 : Int32)), .unset, .unset, .unset] [(.int (p3 &&& (3 : Int32)))])) t → Steps p.tables e below (s₁.setTop (entryFrame m #[(.long q1), (.long q2), (.int p3)] maxLocals)) t := fun t9 k9 => pre101 t9 (by
        show Steps p.tables e below (s₁.setTop (mkF m 8 #[.val (.long q1), .second, .val (.long q2), .second, .val (.int p3), .val (.int (p3 &&& (3 : Int32))), .unset, .unset, .unset, .unset, .unset, .unset, .unset] [(.int (p3 &&& (3 : Int32)))])) _
        refine XS.ifNo X0.here hx rfl (hb hby at_8) rfl ((if0 _ _).trans (own_ne_f (a := (p3 &&& (3 : Int32)).toInt) (b := (0 : Int)) rfl (by decide) b102)) ?_
        show Steps p.tables e below (s₁.setTop (mkF m 11 #[.val (.long q1), .second, .val (.long q2), .second, .val (.int p3), .val (.int (p3 &&& (3 : Int32))), .unset, .unset, .unset, .unset, .unset, .unset, .unset] [])) _
        refine X0.ldc2Long hx hown (mvT hZ (hw _ (List.mem_of_getElem? (i := 0) rfl))) (g := (mkF m 11 #[.val (.long q1), .second, .val (.long q2), .second, .val (.int p3), .val (.int (p3 &&& (3 : Int32))), .unset, .unset, .unset, .unset, .unset, .unset, .unset] [])) rfl (hb hby at_11) _ ?_
        show Steps p.tables e below (s₁.setTop (mkF m 14 #[.val (.long q1), .second, .val (.long q2), .second, .val (.int p3), .val (.int (p3 &&& (3 : Int32))), .unset, .unset, .unset, .unset, .unset, .unset, .unset] [(.long (-1 : Int64))])) _
        refine XS.lstore X0.here hx rfl (hb hby at_14) rfl (l' := #[.val (.long q1), .second, .val (.long q2), .second, .val (.int p3), .val (.int (p3 &&& (3 : Int32))), .val (.long (-1 : Int64)), .second, .unset, .unset, .unset, .unset, .unset]) rfl ?_
        show Steps p.tables e below (s₁.setTop (mkF m 16 #[.val (.long q1), .second, .val (.long q2), .second, .val (.int p3), .val (.int (p3 &&& (3 : Int32))), .val (.long (-1 : Int64)), .second, .unset, .unset, .unset, .unset, .unset] [])) _
        refine XS.goto X0.here hx rfl (pc0 := 16) (pc' := 38) rfl (hb hby at_16) (by decide) (by decide) ?_
        show Steps p.tables e below (s₁.setTop (mkF m 38 #[.val (.long q1), .second, .val (.long q2), .second, .val (.int p3), .val (.int (p3 &&& (3 : Int32))), .val (.long (-1 : Int64)), .second, .unset, .unset, .unset, .unset, .unset] [])) _
        refine st103 _ ?_
        show Steps p.tables e below (T103.setTop (mkF m 41 #[.val (.long q1), .second, .val (.long q2), .second, .val (.int p3), .val (.int (p3 &&& (3 : Int32))), .val (.long (-1 : Int64)), .second, .unset, .unset, .unset, .unset, .unset] [(.ref b103)])) _
        refine XS.dup X103.here hx rfl (hb hby at_41) rfl rfl ?_
        show Steps p.tables e below (T103.setTop (mkF m 42 #[.val (.long q1), .second, .val (.long q2), .second, .val (.int p3), .val (.int (p3 &&& (3 : Int32))), .val (.long (-1 : Int64)), .second, .unset, .unset, .unset, .unset, .unset] [(.ref b103), (.ref b103)])) _
        refine XS.lloadN X103.here hx rfl (hb hby at_42) rfl ?_
        show Steps p.tables e below (T103.setTop (mkF m 43 #[.val (.long q1), .second, .val (.long q2), .second, .val (.int p3), .val (.int (p3 &&& (3 : Int32))), .val (.long (-1 : Int64)), .second, .unset, .unset, .unset, .unset, .unset] [(.long q1), (.ref b103), (.ref b103)])) _
        refine XS.lload X103.here hx rfl (hb hby at_43) rfl ?_
        show Steps p.tables e below (T103.setTop (mkF m 45 #[.val (.long q1), .second, .val (.long q2), .second, .val (.int p3), .val (.int (p3 &&& (3 : Int32))), .val (.long (-1 : Int64)), .second, .unset, .unset, .unset, .unset, .unset] [(.long (-1 : Int64)), (.long q1), (.ref b103), (.ref b103)])) _
        refine st104.trans ?_
        show Steps p.tables e below (T104.setTop (mkF m 48 #[.val (.long q1), .second, .val (.long q2), .second, .val (.int p3), .val (.int (p3 &&& (3 : Int32))), .val (.long (-1 : Int64)), .second, .unset, .unset, .unset, .unset, .unset] [(.ref b103)])) _
        refine XS.astore X104.here hx rfl (hb hby at_48) rfl rfl (l' := #[.val (.long q1), .second, .val (.long q2), .second, .val (.int p3), .val (.int (p3 &&& (3 : Int32))), .val (.long (-1 : Int64)), .second, .val (.ref b103), .unset, .unset, .unset, .unset]) rfl ?_
        show Steps p.tables e below (T104.setTop (mkF m 50 #[.val (.long q1), .second, .val (.long q2), .second, .val (.int p3), .val (.int (p3 &&& (3 : Int32))), .val (.long (-1 : Int64)), .second, .val (.ref b103), .unset, .unset, .unset, .unset] [])) _
        refine XS.aload X104.here hx rfl (hb hby at_50) rfl rfl ?_
        show Steps p.tables e below (T104.setTop (mkF m 52 #[.val (.long q1), .second, .val (.long q2), .second, .val (.int p3), .val (.int (p3 &&& (3 : Int32))), .val (.long (-1 : Int64)), .second, .val (.ref b103), .unset, .unset, .unset, .unset] [(.ref b103)])) _
        refine st106.trans ?_
        show Steps p.tables e below (T106.setTop (mkF m 55 #[.val (.long q1), .second, .val (.long q2), .second, .val (.int p3), .val (.int (p3 &&& (3 : Int32))), .val (.long (-1 : Int64)), .second, .val (.ref b103), .unset, .unset, .unset, .unset] [(.int (0 : Int32))])) _
        refine XS.istore X106.here hx rfl (hb hby at_55) rfl (l' := #[.val (.long q1), .second, .val (.long q2), .second, .val (.int p3), .val (.int (p3 &&& (3 : Int32))), .val (.long (-1 : Int64)), .second, .val (.ref b103), .val (.int (0 : Int32)), .unset, .unset, .unset]) rfl ?_
        show Steps p.tables e below (T106.setTop (mkF m 57 #[.val (.long q1), .second, .val (.long q2), .second, .val (.int p3), .val (.int (p3 &&& (3 : Int32))), .val (.long (-1 : Int64)), .second, .val (.ref b103), .val (.int (0 : Int32)), .unset, .unset, .unset] [])) _
        refine XS.iload X106.here hx rfl (hb hby at_57) rfl ?_
        exact k9)
    have b108 : (p3 &&& (3 : Int32)).toInt = (0 : Int) := by omega
    obtain ⟨cq109, kq109, q109a, q109b, q109c⟩ := isOf hZ e106 E104x
    obtain ⟨_, _, ⟨T109, L109, k109, n109⟩, -, X109, ⟨Lc109, hQ109, l109, y109, z109⟩, st109⟩ := X106.virtualBack hx (y := (⟨"com/example/mass_cluster/masscluster/GzipMembers$Place", "isInMember", "()Z"⟩ : MethodName)) (z := (⟨"com/example/mass_cluster/masscluster/GzipMembers$Place", "isInMember", "()Z"⟩ : MethodName)) hown (mvT hZ (hw _ (List.mem_of_getElem? (i := 24) rfl))) (mvT hZ (hw _ (List.mem_of_getElem? (i := 25) rfl))) (notFace_of_selects (args := #[]) (mvT hZ (hw _ (List.mem_of_getElem? (i := 27) rfl)))) (mvT hZ (hw _ (List.mem_of_getElem? (i := 27) rfl))) (mvT hZ (hw _ (List.mem_of_getElem? (i := 26) rfl))) (by decide) (backOf (W := 1) (rm5 l Z a0 hw [] b103 (-1 : Int64) T104.heap n0 Z104 F104_inMember) hZ (hw _ (List.mem_of_getElem? (i := 28) rfl)) (hw _ (List.mem_of_getElem? (i := 3) rfl)) (by decide) (by decide)) q109a q109c (g := (mkF m 80 #[.val (.long q1), .second, .val (.long q2), .second, .val (.int p3), .val (.int (p3 &&& (3 : Int32))), .val (.long (-1 : Int64)), .second, .val (.ref b103), .val (.int (0 : Int32)), .val (.int (0 : Int32)), .unset, .unset] [(.ref b103), (.int (0 : Int32))])) rfl (by rw [hml]; rfl) (Steps.refl _) (argsL := []) (rest := [(.int (0 : Int32))]) (lenOf pd_0_1 rfl) rfl (by show 2 * 0 + _ ≤ _; exact Nat.le_of_eq rfl) (hb hby at_80) (fun _ _ => ⟨rfl, e106, (by decide : 1 + 0 ≤ _), (by decide : 2 + 0 ≤ _)⟩)
    dsimp only [Pt.U, Pt.locs, Pt.cells, Pt.slots] at X109 l109 y109 z109 st109 hQ109
    subst l109 y109 z109
    obtain ⟨hv109, N109q, e109⟩ := hQ109
    have r109 : (own_v5 (-1 : Int64)) = (0 : Int32) := by decide
    rw [r109] at hv109
    subst hv109
    have N109 := Fr.app N106 N109q
    obtain ⟨_, _, ⟨T110, L110, k110, n110⟩, -, X110, ⟨Lc110, hQ110, l110, y110, z110⟩, st110⟩ := Jvm.LawKit.callS X109 hx (y := (⟨"com/example/mass_cluster/masscluster/GzipMembers$Place", "inFile", "(J)Lcom/example/mass_cluster/masscluster/GzipMembers$Place;"⟩ : MethodName)) hown (mvT hZ (hw _ (List.mem_of_getElem? (i := 30) rfl))) (mvT hZ (hw _ (List.mem_of_getElem? (i := 31) rfl))) (mvT hZ (hw _ (List.mem_of_getElem? (i := 3) rfl))) (mvT hZ (hw _ (List.mem_of_getElem? (i := 32) rfl))) (by decide) (backOf (W := 0) (rm6 l Z a0 hw [] q1 T104.heap n0 Z104 ) hZ (hw _ (List.mem_of_getElem? (i := 32) rfl)) (hw _ (List.mem_of_getElem? (i := 3) rfl)) (by decide) (by decide)) (g := (mkF m 109 #[.val (.long q1), .second, .val (.long q2), .second, .val (.int p3), .val (.int (p3 &&& (3 : Int32))), .val (.long (-1 : Int64)), .second, .val (.ref b103), .val (.int (0 : Int32)), .val (.int (0 : Int32)), .val (.int (1 : Int32)), .unset] [(.long q1)])) rfl (by rw [hml]; rfl) (argsL := [(.long q1)]) (rest := []) (lenOf pd_0_2 rfl) rfl (by show 2 * 0 + _ ≤ _; exact Nat.le_of_eq rfl) (hb hby at_109) (fun _ _ => ⟨rfl, e109, (by decide : 1 + 1 ≤ _), (by decide : 2 + 2 ≤ _)⟩)
    dsimp only [Pt.U, Pt.locs, Pt.cells, Pt.slots] at X110 l110 y110 z110 st110 hQ110
    subst l110 y110 z110
    obtain ⟨r110, hv110, N110q, K110, sz110, E110x, F110_i⟩ := hQ110
    subst hv110
    have N110 := Fr.app N109 N110q
    have Ek111 := E104x.keep K110
    have Fk112 := F104_offset.keep K110 nin0
    have Fk113 := F104_inMember.keep K110 nin0
    have KK110 := KK104.trans K110 all0
    have Z110 : n0 ≤ T110.heap.size := Nat.le_trans Z104 K110.1
    obtain ⟨cq114, kq114, q114a, q114b, q114c⟩ := isOf hZ rfl E110x
    obtain ⟨_, _, ⟨T114, L114, k114, n114⟩, -, X114, ⟨Lc114, hQ114, l114, y114, z114⟩, st114⟩ := X110.virtualBack hx (y := (⟨"com/example/mass_cluster/masscluster/GzipMembers$Place", "isPastMemberStart", "()Z"⟩ : MethodName)) (z := (⟨"com/example/mass_cluster/masscluster/GzipMembers$Place", "isPastMemberStart", "()Z"⟩ : MethodName)) hown (mvT hZ (hw _ (List.mem_of_getElem? (i := 19) rfl))) (mvT hZ (hw _ (List.mem_of_getElem? (i := 20) rfl))) (notFace_of_selects (args := #[]) (mvT hZ (hw _ (List.mem_of_getElem? (i := 22) rfl)))) (mvT hZ (hw _ (List.mem_of_getElem? (i := 22) rfl))) (mvT hZ (hw _ (List.mem_of_getElem? (i := 21) rfl))) (by decide) (backOf (W := 0) (rm4 l Z a0 hw [] r110 (-1 : Int64) T110.heap n0 Z110 F110_i) hZ (hw _ (List.mem_of_getElem? (i := 23) rfl)) (hw _ (List.mem_of_getElem? (i := 3) rfl)) (by decide) (by decide)) q114a q114c (g := (mkF m 112 #[.val (.long q1), .second, .val (.long q2), .second, .val (.int p3), .val (.int (p3 &&& (3 : Int32))), .val (.long (-1 : Int64)), .second, .val (.ref b103), .val (.int (0 : Int32)), .val (.int (0 : Int32)), .val (.int (1 : Int32)), .unset] [(.ref r110)])) rfl (by rw [hml]; rfl) (Steps.refl _) (argsL := []) (rest := []) (lenOf pd_0_1 rfl) rfl (by show 2 * 0 + _ ≤ _; exact Nat.le_of_eq rfl) (hb hby at_112) (fun _ _ => ⟨rfl, rfl, (by decide : 2 + 0 ≤ _), (by decide : 4 + 0 ≤ _)⟩)
    dsimp only [Pt.U, Pt.locs, Pt.cells, Pt.slots] at X114 l114 y114 z114 st114 hQ114
    subst l114 y114 z114
    obtain ⟨hv114, N114q, e114⟩ := hQ114
    have r114 : (own_v4 (-1 : Int64)) = (0 : Int32) := by decide
    rw [r114] at hv114
    subst hv114
    have N114 := Fr.app N110 N114q
    have pre115 : ∀ t, Steps p.tables e below (T114.setTop (mkF m 147 #[.val (.long q1), .second, .val (.long q2), .second, .val (.int p3), .val (.int (p3 &&& (3 : Int32))), .val (.long (-1 : Int64)), .second, .val (.ref b103), .val (.int (0 : Int32)), .val (.int (0 : Int32)), .val (.int (1 : Int32)), .val (.int (1 : Int32))] [(.int (1 : Int32))])) t → Steps p.tables e below (s₁.setTop (entryFrame m #[(.long q1), (.long q2), (.int p3)] maxLocals)) t := fun t9 k9 => pre107 t9 (by
        show Steps p.tables e below (T106.setTop (mkF m 59 #[.val (.long q1), .second, .val (.long q2), .second, .val (.int p3), .val (.int (p3 &&& (3 : Int32))), .val (.long (-1 : Int64)), .second, .val (.ref b103), .val (.int (0 : Int32)), .unset, .unset, .unset] [(.int (p3 &&& (3 : Int32)))])) _
        refine XS.ifYes X106.here hx rfl (pc0 := 59) (pc' := 73) rfl (hb hby at_59) rfl ((if0 _ _).trans (own_eq_t (a := (p3 &&& (3 : Int32)).toInt) (b := (0 : Int)) rfl (by decide) b108)) (by decide) (by decide) ?_
        show Steps p.tables e below (T106.setTop (mkF m 73 #[.val (.long q1), .second, .val (.long q2), .second, .val (.int p3), .val (.int (p3 &&& (3 : Int32))), .val (.long (-1 : Int64)), .second, .val (.ref b103), .val (.int (0 : Int32)), .unset, .unset, .unset] [])) _
        refine XS.iconst X106.here hx rfl (hb hby at_73) ?_
        show Steps p.tables e below (T106.setTop (mkF m 74 #[.val (.long q1), .second, .val (.long q2), .second, .val (.int p3), .val (.int (p3 &&& (3 : Int32))), .val (.long (-1 : Int64)), .second, .val (.ref b103), .val (.int (0 : Int32)), .unset, .unset, .unset] [(.int (0 : Int32))])) _
        refine XS.istore X106.here hx rfl (hb hby at_74) rfl (l' := #[.val (.long q1), .second, .val (.long q2), .second, .val (.int p3), .val (.int (p3 &&& (3 : Int32))), .val (.long (-1 : Int64)), .second, .val (.ref b103), .val (.int (0 : Int32)), .val (.int (0 : Int32)), .unset, .unset]) rfl ?_
        show Steps p.tables e below (T106.setTop (mkF m 76 #[.val (.long q1), .second, .val (.long q2), .second, .val (.int p3), .val (.int (p3 &&& (3 : Int32))), .val (.long (-1 : Int64)), .second, .val (.ref b103), .val (.int (0 : Int32)), .val (.int (0 : Int32)), .unset, .unset] [])) _
        refine XS.iload X106.here hx rfl (hb hby at_76) rfl ?_
        show Steps p.tables e below (T106.setTop (mkF m 78 #[.val (.long q1), .second, .val (.long q2), .second, .val (.int p3), .val (.int (p3 &&& (3 : Int32))), .val (.long (-1 : Int64)), .second, .val (.ref b103), .val (.int (0 : Int32)), .val (.int (0 : Int32)), .unset, .unset] [(.int (0 : Int32))])) _
        refine XS.aload X106.here hx rfl (hb hby at_78) rfl rfl ?_
        show Steps p.tables e below (T106.setTop (mkF m 80 #[.val (.long q1), .second, .val (.long q2), .second, .val (.int p3), .val (.int (p3 &&& (3 : Int32))), .val (.long (-1 : Int64)), .second, .val (.ref b103), .val (.int (0 : Int32)), .val (.int (0 : Int32)), .unset, .unset] [(.ref b103), (.int (0 : Int32))])) _
        refine st109.trans ?_
        show Steps p.tables e below (T109.setTop (mkF m 83 #[.val (.long q1), .second, .val (.long q2), .second, .val (.int p3), .val (.int (p3 &&& (3 : Int32))), .val (.long (-1 : Int64)), .second, .val (.ref b103), .val (.int (0 : Int32)), .val (.int (0 : Int32)), .unset, .unset] [(.int (0 : Int32)), (.int (0 : Int32))])) _
        refine XS.ifYes X109.here hx rfl (pc0 := 83) (pc' := 97) rfl (hb hby at_83) rfl ((if0 _ _).trans (own_eq_t (a := (0 : Int)) (b := (0 : Int)) (by decide) (by decide) (by decide))) (by decide) (by decide) ?_
        show Steps p.tables e below (T109.setTop (mkF m 97 #[.val (.long q1), .second, .val (.long q2), .second, .val (.int p3), .val (.int (p3 &&& (3 : Int32))), .val (.long (-1 : Int64)), .second, .val (.ref b103), .val (.int (0 : Int32)), .val (.int (0 : Int32)), .unset, .unset] [(.int (0 : Int32))])) _
        refine XS.iconst X109.here hx rfl (hb hby at_97) ?_
        show Steps p.tables e below (T109.setTop (mkF m 98 #[.val (.long q1), .second, .val (.long q2), .second, .val (.int p3), .val (.int (p3 &&& (3 : Int32))), .val (.long (-1 : Int64)), .second, .val (.ref b103), .val (.int (0 : Int32)), .val (.int (0 : Int32)), .unset, .unset] [(.int (0 : Int32)), (.int (0 : Int32))])) _
        refine XS.icmpNo X109.here hx rfl (hb hby at_98) rfl (own_ne_f (a := (0 : Int)) (b := (0 : Int)) (by decide) (by decide) (by decide)) ?_
        show Steps p.tables e below (T109.setTop (mkF m 101 #[.val (.long q1), .second, .val (.long q2), .second, .val (.int p3), .val (.int (p3 &&& (3 : Int32))), .val (.long (-1 : Int64)), .second, .val (.ref b103), .val (.int (0 : Int32)), .val (.int (0 : Int32)), .unset, .unset] [])) _
        refine XS.iconst X109.here hx rfl (hb hby at_101) ?_
        show Steps p.tables e below (T109.setTop (mkF m 102 #[.val (.long q1), .second, .val (.long q2), .second, .val (.int p3), .val (.int (p3 &&& (3 : Int32))), .val (.long (-1 : Int64)), .second, .val (.ref b103), .val (.int (0 : Int32)), .val (.int (0 : Int32)), .unset, .unset] [(.int (1 : Int32))])) _
        refine XS.goto X109.here hx rfl (pc0 := 102) (pc' := 106) rfl (hb hby at_102) (by decide) (by decide) ?_
        show Steps p.tables e below (T109.setTop (mkF m 106 #[.val (.long q1), .second, .val (.long q2), .second, .val (.int p3), .val (.int (p3 &&& (3 : Int32))), .val (.long (-1 : Int64)), .second, .val (.ref b103), .val (.int (0 : Int32)), .val (.int (0 : Int32)), .unset, .unset] [(.int (1 : Int32))])) _
        refine XS.istore X109.here hx rfl (hb hby at_106) rfl (l' := #[.val (.long q1), .second, .val (.long q2), .second, .val (.int p3), .val (.int (p3 &&& (3 : Int32))), .val (.long (-1 : Int64)), .second, .val (.ref b103), .val (.int (0 : Int32)), .val (.int (0 : Int32)), .val (.int (1 : Int32)), .unset]) rfl ?_
        show Steps p.tables e below (T109.setTop (mkF m 108 #[.val (.long q1), .second, .val (.long q2), .second, .val (.int p3), .val (.int (p3 &&& (3 : Int32))), .val (.long (-1 : Int64)), .second, .val (.ref b103), .val (.int (0 : Int32)), .val (.int (0 : Int32)), .val (.int (1 : Int32)), .unset] [])) _
        refine XS.lloadN X109.here hx rfl (hb hby at_108) rfl ?_
        show Steps p.tables e below (T109.setTop (mkF m 109 #[.val (.long q1), .second, .val (.long q2), .second, .val (.int p3), .val (.int (p3 &&& (3 : Int32))), .val (.long (-1 : Int64)), .second, .val (.ref b103), .val (.int (0 : Int32)), .val (.int (0 : Int32)), .val (.int (1 : Int32)), .unset] [(.long q1)])) _
        refine st110 _ ?_
        show Steps p.tables e below (T110.setTop (mkF m 112 #[.val (.long q1), .second, .val (.long q2), .second, .val (.int p3), .val (.int (p3 &&& (3 : Int32))), .val (.long (-1 : Int64)), .second, .val (.ref b103), .val (.int (0 : Int32)), .val (.int (0 : Int32)), .val (.int (1 : Int32)), .unset] [(.ref r110)])) _
        refine st114.trans ?_
        show Steps p.tables e below (T114.setTop (mkF m 115 #[.val (.long q1), .second, .val (.long q2), .second, .val (.int p3), .val (.int (p3 &&& (3 : Int32))), .val (.long (-1 : Int64)), .second, .val (.ref b103), .val (.int (0 : Int32)), .val (.int (0 : Int32)), .val (.int (1 : Int32)), .unset] [(.int (0 : Int32))])) _
        refine XS.ifNo X114.here hx rfl (hb hby at_115) rfl ((if0 _ _).trans (own_ne_f (a := (0 : Int)) (b := (0 : Int)) (by decide) (by decide) (by decide))) ?_
        show Steps p.tables e below (T114.setTop (mkF m 118 #[.val (.long q1), .second, .val (.long q2), .second, .val (.int p3), .val (.int (p3 &&& (3 : Int32))), .val (.long (-1 : Int64)), .second, .val (.ref b103), .val (.int (0 : Int32)), .val (.int (0 : Int32)), .val (.int (1 : Int32)), .unset] [])) _
        refine XS.iconst X114.here hx rfl (hb hby at_118) ?_
        show Steps p.tables e below (T114.setTop (mkF m 119 #[.val (.long q1), .second, .val (.long q2), .second, .val (.int p3), .val (.int (p3 &&& (3 : Int32))), .val (.long (-1 : Int64)), .second, .val (.ref b103), .val (.int (0 : Int32)), .val (.int (0 : Int32)), .val (.int (1 : Int32)), .unset] [(.int (1 : Int32))])) _
        refine XS.goto X114.here hx rfl (pc0 := 119) (pc' := 123) rfl (hb hby at_119) (by decide) (by decide) ?_
        show Steps p.tables e below (T114.setTop (mkF m 123 #[.val (.long q1), .second, .val (.long q2), .second, .val (.int p3), .val (.int (p3 &&& (3 : Int32))), .val (.long (-1 : Int64)), .second, .val (.ref b103), .val (.int (0 : Int32)), .val (.int (0 : Int32)), .val (.int (1 : Int32)), .unset] [(.int (1 : Int32))])) _
        refine XS.istore X114.here hx rfl (hb hby at_123) rfl (l' := #[.val (.long q1), .second, .val (.long q2), .second, .val (.int p3), .val (.int (p3 &&& (3 : Int32))), .val (.long (-1 : Int64)), .second, .val (.ref b103), .val (.int (0 : Int32)), .val (.int (0 : Int32)), .val (.int (1 : Int32)), .val (.int (1 : Int32))]) rfl ?_
        show Steps p.tables e below (T114.setTop (mkF m 125 #[.val (.long q1), .second, .val (.long q2), .second, .val (.int p3), .val (.int (p3 &&& (3 : Int32))), .val (.long (-1 : Int64)), .second, .val (.ref b103), .val (.int (0 : Int32)), .val (.int (0 : Int32)), .val (.int (1 : Int32)), .val (.int (1 : Int32))] [])) _
        refine XS.iload X114.here hx rfl (hb hby at_125) rfl ?_
        show Steps p.tables e below (T114.setTop (mkF m 127 #[.val (.long q1), .second, .val (.long q2), .second, .val (.int p3), .val (.int (p3 &&& (3 : Int32))), .val (.long (-1 : Int64)), .second, .val (.ref b103), .val (.int (0 : Int32)), .val (.int (0 : Int32)), .val (.int (1 : Int32)), .val (.int (1 : Int32))] [(.int (0 : Int32))])) _
        refine XS.iload X114.here hx rfl (hb hby at_127) rfl ?_
        show Steps p.tables e below (T114.setTop (mkF m 129 #[.val (.long q1), .second, .val (.long q2), .second, .val (.int p3), .val (.int (p3 &&& (3 : Int32))), .val (.long (-1 : Int64)), .second, .val (.ref b103), .val (.int (0 : Int32)), .val (.int (0 : Int32)), .val (.int (1 : Int32)), .val (.int (1 : Int32))] [(.int (0 : Int32)), (.int (0 : Int32))])) _
        refine XS.icmpNo X114.here hx rfl (hb hby at_129) rfl (own_ne_f (a := (0 : Int)) (b := (0 : Int)) (by decide) (by decide) (by decide)) ?_
        show Steps p.tables e below (T114.setTop (mkF m 132 #[.val (.long q1), .second, .val (.long q2), .second, .val (.int p3), .val (.int (p3 &&& (3 : Int32))), .val (.long (-1 : Int64)), .second, .val (.ref b103), .val (.int (0 : Int32)), .val (.int (0 : Int32)), .val (.int (1 : Int32)), .val (.int (1 : Int32))] [])) _
        refine XS.iload X114.here hx rfl (hb hby at_132) rfl ?_
        show Steps p.tables e below (T114.setTop (mkF m 134 #[.val (.long q1), .second, .val (.long q2), .second, .val (.int p3), .val (.int (p3 &&& (3 : Int32))), .val (.long (-1 : Int64)), .second, .val (.ref b103), .val (.int (0 : Int32)), .val (.int (0 : Int32)), .val (.int (1 : Int32)), .val (.int (1 : Int32))] [(.int (1 : Int32))])) _
        refine XS.ifNo X114.here hx rfl (hb hby at_134) rfl ((if0 _ _).trans (own_eq_f (a := (1 : Int)) (b := (0 : Int)) (by decide) (by decide) (by decide))) ?_
        show Steps p.tables e below (T114.setTop (mkF m 137 #[.val (.long q1), .second, .val (.long q2), .second, .val (.int p3), .val (.int (p3 &&& (3 : Int32))), .val (.long (-1 : Int64)), .second, .val (.ref b103), .val (.int (0 : Int32)), .val (.int (0 : Int32)), .val (.int (1 : Int32)), .val (.int (1 : Int32))] [])) _
        refine XS.iload X114.here hx rfl (hb hby at_137) rfl ?_
        show Steps p.tables e below (T114.setTop (mkF m 139 #[.val (.long q1), .second, .val (.long q2), .second, .val (.int p3), .val (.int (p3 &&& (3 : Int32))), .val (.long (-1 : Int64)), .second, .val (.ref b103), .val (.int (0 : Int32)), .val (.int (0 : Int32)), .val (.int (1 : Int32)), .val (.int (1 : Int32))] [(.int (1 : Int32))])) _
        refine XS.ifNo X114.here hx rfl (hb hby at_139) rfl ((if0 _ _).trans (own_eq_f (a := (1 : Int)) (b := (0 : Int)) (by decide) (by decide) (by decide))) ?_
        show Steps p.tables e below (T114.setTop (mkF m 142 #[.val (.long q1), .second, .val (.long q2), .second, .val (.int p3), .val (.int (p3 &&& (3 : Int32))), .val (.long (-1 : Int64)), .second, .val (.ref b103), .val (.int (0 : Int32)), .val (.int (0 : Int32)), .val (.int (1 : Int32)), .val (.int (1 : Int32))] [])) _
        refine XS.iconst X114.here hx rfl (hb hby at_142) ?_
        show Steps p.tables e below (T114.setTop (mkF m 143 #[.val (.long q1), .second, .val (.long q2), .second, .val (.int p3), .val (.int (p3 &&& (3 : Int32))), .val (.long (-1 : Int64)), .second, .val (.ref b103), .val (.int (0 : Int32)), .val (.int (0 : Int32)), .val (.int (1 : Int32)), .val (.int (1 : Int32))] [(.int (1 : Int32))])) _
        refine XS.goto X114.here hx rfl (pc0 := 143) (pc' := 147) rfl (hb hby at_143) (by decide) (by decide) ?_
        exact k9)
    obtain ⟨fs, hr, hrun, hended, hW, hsame⟩ := X114.leave (v := some (.int (1 : Int32))) (fun h => by rw [Bd.returns] at h; cases h)
    refine ⟨_, _, pre115 _ ?_, hrun, hended, _, _, rfl, ?_, ⟨_, rfl⟩, hW, hsame.mono (by decide) (by decide)⟩
    · show Steps p.tables e below (T114.setTop (mkF m 147 #[.val (.long q1), .second, .val (.long q2), .second, .val (.int p3), .val (.int (p3 &&& (3 : Int32))), .val (.long (-1 : Int64)), .second, .val (.ref b103), .val (.int (0 : Int32)), .val (.int (0 : Int32)), .val (.int (1 : Int32)), .val (.int (1 : Int32))] [(.int (1 : Int32))])) _
      exact retN X114 hx (t := .boolean) Bd.returns (by simp) (hb hby at_147) hr
    · show Q0 Z q1 q2 p3 h0 n0 _ T114.heap _
      rw [e114]
      exact ⟨rfl, N114⟩
  · have pre116 : ∀ t, Steps p.tables e below (s₁.setTop (mkF m 22 #[.val (.long q1), .second, .val (.long q2), .second, .val (.int p3), .val (.int (p3 &&& (3 : Int32))), .unset, .unset, .unset, .unset, .unset, .unset, .unset] [(.int (1 : Int32)), (.int (p3 &&& (3 : Int32)))])) t → Steps p.tables e below (s₁.setTop (entryFrame m #[(.long q1), (.long q2), (.int p3)] maxLocals)) t := fun t9 k9 => pre101 t9 (by
        show Steps p.tables e below (s₁.setTop (mkF m 8 #[.val (.long q1), .second, .val (.long q2), .second, .val (.int p3), .val (.int (p3 &&& (3 : Int32))), .unset, .unset, .unset, .unset, .unset, .unset, .unset] [(.int (p3 &&& (3 : Int32)))])) _
        refine XS.ifYes X0.here hx rfl (pc0 := 8) (pc' := 19) rfl (hb hby at_8) rfl ((if0 _ _).trans (own_ne_t (a := (p3 &&& (3 : Int32)).toInt) (b := (0 : Int)) rfl (by decide) b102)) (by decide) (by decide) ?_
        show Steps p.tables e below (s₁.setTop (mkF m 19 #[.val (.long q1), .second, .val (.long q2), .second, .val (.int p3), .val (.int (p3 &&& (3 : Int32))), .unset, .unset, .unset, .unset, .unset, .unset, .unset] [])) _
        refine XS.iload X0.here hx rfl (hb hby at_19) rfl ?_
        show Steps p.tables e below (s₁.setTop (mkF m 21 #[.val (.long q1), .second, .val (.long q2), .second, .val (.int p3), .val (.int (p3 &&& (3 : Int32))), .unset, .unset, .unset, .unset, .unset, .unset, .unset] [(.int (p3 &&& (3 : Int32)))])) _
        refine XS.iconst X0.here hx rfl (hb hby at_21) ?_
        exact k9)
    by_cases b117 : (p3 &&& (3 : Int32)).toInt = (1 : Int)
    · obtain ⟨T118, h118, X118, e118, E118, A118, D118, -, st118⟩ := newO X0 hx hZ hown (hw _ (List.mem_of_getElem? (i := 1) rfl)) (hw _ (List.mem_of_getElem? (i := 2) rfl)) (hw _ (List.mem_of_getElem? (i := 3) rfl)) e0 (g := (mkF m 38 #[.val (.long q1), .second, .val (.long q2), .second, .val (.int p3), .val (.int (p3 &&& (3 : Int32))), .val (.long (0 : Int64)), .second, .unset, .unset, .unset, .unset, .unset] [])) rfl (hb hby at_38) (by decide) (by decide)
      obtain ⟨b118, g118⟩ : ∃ z, z = h0.size := ⟨_, rfl⟩
      rw [← g118] at A118 D118 st118
      have g_b118 : n0 ≤ b118 := Nat.le_trans Z0 (Nat.le_of_eq g118.symm)
      have sz_b118 : h0.size ≤ b118 := Nat.le_trans (Keep.refl h0 []).1 (Nat.le_of_eq g118.symm)
      have F118_offset : Fld Z h118 b118 "com/example/mass_cluster/masscluster/GzipMembers$Place" "offset" "J" (.long (0 : Int64)) := D118 (Or.inr (hw _ (List.mem_of_getElem? (i := 16) rfl))) (ty := .long) (by decide)
      have F118_inMember : Fld Z h118 b118 "com/example/mass_cluster/masscluster/GzipMembers$Place" "inMember" "J" (.long (0 : Int64)) := D118 (Or.inr (hw _ (List.mem_of_getElem? (i := 18) rfl))) (ty := .long) (by decide)
      have K118 := (Keep.refl h0 []).ext E118
      have Z118 : n0 ≤ h118.size := Nat.le_trans Z0 E118.1
      obtain ⟨_, _, ⟨T119, L119, k119, n119⟩, -, X119, ⟨Lc119, hQ119, l119, y119, z119⟩, st119⟩ := X118.specialBack hx (y := (⟨"com/example/mass_cluster/masscluster/GzipMembers$Place", "<init>", "(JJ)V"⟩ : MethodName)) rfl hown (mvT hZ (hw _ (List.mem_of_getElem? (i := 4) rfl))) (mvT hZ (hw _ (List.mem_of_getElem? (i := 5) rfl))) (mvT hZ (hw _ (List.mem_of_getElem? (i := 6) rfl))) (by decide) (backOf (W := 1) (rm1 l Z a0 hw [] b118 q1 (0 : Int64) h118 n0 Z118 A118 F118_offset F118_inMember g_b118) hZ (hw _ (List.mem_of_getElem? (i := 6) rfl)) (hw _ (List.mem_of_getElem? (i := 3) rfl)) (by decide) (by decide)) (g := (mkF m 45 #[.val (.long q1), .second, .val (.long q2), .second, .val (.int p3), .val (.int (p3 &&& (3 : Int32))), .val (.long (0 : Int64)), .second, .unset, .unset, .unset, .unset, .unset] [(.long (0 : Int64)), (.long q1), (.ref b118), (.ref b118)])) rfl (by rw [hml]; rfl) (Steps.refl _) (a := b118) (argsL := [(.long q1), (.long (0 : Int64))]) (rest := [(.ref b118)]) (lenOf pd_0_0 rfl) rfl (by show 2 * 0 + _ ≤ _; exact Nat.le_of_eq rfl) (hb hby at_45) (fun _ _ => ⟨rfl, e118, (by decide : 1 + 0 ≤ _), (by decide : 2 + 0 ≤ _)⟩)
      dsimp only [Pt.U, Pt.locs, Pt.cells, Pt.slots] at X119 l119 y119 z119 st119 hQ119
      subst l119 y119 z119
      obtain ⟨hv119, N119q, K119, E119x, F119_offset, F119_inMember⟩ := hQ119
      subst hv119
      have N119 := Fr.app N0 N119q
      have Ek120 := A118.keep K119
      have KK119 := K118.trans K119 (allS (Or.inr sz_b118) all0)
      have Z119 : n0 ≤ T119.heap.size := Nat.le_trans Z118 K119.1
      obtain ⟨cq121, kq121, q121a, q121b, q121c⟩ := isOf hZ rfl E119x
      obtain ⟨_, _, ⟨T121, L121, k121, n121⟩, -, X121, ⟨Lc121, hQ121, l121, y121, z121⟩, st121⟩ := X119.virtualBack hx (y := (⟨"com/example/mass_cluster/masscluster/GzipMembers$Place", "isPastMemberStart", "()Z"⟩ : MethodName)) (z := (⟨"com/example/mass_cluster/masscluster/GzipMembers$Place", "isPastMemberStart", "()Z"⟩ : MethodName)) hown (mvT hZ (hw _ (List.mem_of_getElem? (i := 19) rfl))) (mvT hZ (hw _ (List.mem_of_getElem? (i := 20) rfl))) (notFace_of_selects (args := #[]) (mvT hZ (hw _ (List.mem_of_getElem? (i := 22) rfl)))) (mvT hZ (hw _ (List.mem_of_getElem? (i := 22) rfl))) (mvT hZ (hw _ (List.mem_of_getElem? (i := 21) rfl))) (by decide) (backOf (W := 0) (rm4 l Z a0 hw [] b118 (0 : Int64) T119.heap n0 Z119 F119_inMember) hZ (hw _ (List.mem_of_getElem? (i := 23) rfl)) (hw _ (List.mem_of_getElem? (i := 3) rfl)) (by decide) (by decide)) q121a q121c (g := (mkF m 52 #[.val (.long q1), .second, .val (.long q2), .second, .val (.int p3), .val (.int (p3 &&& (3 : Int32))), .val (.long (0 : Int64)), .second, .val (.ref b118), .unset, .unset, .unset, .unset] [(.ref b118)])) rfl (by rw [hml]; rfl) (Steps.refl _) (argsL := []) (rest := []) (lenOf pd_0_1 rfl) rfl (by show 2 * 0 + _ ≤ _; exact Nat.le_of_eq rfl) (hb hby at_52) (fun _ _ => ⟨rfl, rfl, (by decide : 1 + 0 ≤ _), (by decide : 2 + 0 ≤ _)⟩)
      dsimp only [Pt.U, Pt.locs, Pt.cells, Pt.slots] at X121 l121 y121 z121 st121 hQ121
      subst l121 y121 z121
      obtain ⟨hv121, N121q, e121⟩ := hQ121
      have r121 : (own_v4 (0 : Int64)) = (0 : Int32) := by decide
      rw [r121] at hv121
      subst hv121
      have N121 := Fr.app N119 N121q
      have pre122 : ∀ t, Steps p.tables e below (T121.setTop (mkF m 59 #[.val (.long q1), .second, .val (.long q2), .second, .val (.int p3), .val (.int (p3 &&& (3 : Int32))), .val (.long (0 : Int64)), .second, .val (.ref b118), .val (.int (0 : Int32)), .unset, .unset, .unset] [(.int (p3 &&& (3 : Int32)))])) t → Steps p.tables e below (s₁.setTop (entryFrame m #[(.long q1), (.long q2), (.int p3)] maxLocals)) t := fun t9 k9 => pre116 t9 (by
          show Steps p.tables e below (s₁.setTop (mkF m 22 #[.val (.long q1), .second, .val (.long q2), .second, .val (.int p3), .val (.int (p3 &&& (3 : Int32))), .unset, .unset, .unset, .unset, .unset, .unset, .unset] [(.int (1 : Int32)), (.int (p3 &&& (3 : Int32)))])) _
          refine XS.icmpNo X0.here hx rfl (hb hby at_22) rfl (own_ne_f (a := (p3 &&& (3 : Int32)).toInt) (b := (1 : Int)) rfl (by decide) b117) ?_
          show Steps p.tables e below (s₁.setTop (mkF m 25 #[.val (.long q1), .second, .val (.long q2), .second, .val (.int p3), .val (.int (p3 &&& (3 : Int32))), .unset, .unset, .unset, .unset, .unset, .unset, .unset] [])) _
          refine XS.lconst X0.here hx rfl (hb hby at_25) ?_
          show Steps p.tables e below (s₁.setTop (mkF m 26 #[.val (.long q1), .second, .val (.long q2), .second, .val (.int p3), .val (.int (p3 &&& (3 : Int32))), .unset, .unset, .unset, .unset, .unset, .unset, .unset] [(.long (0 : Int64))])) _
          refine XS.lstore X0.here hx rfl (hb hby at_26) rfl (l' := #[.val (.long q1), .second, .val (.long q2), .second, .val (.int p3), .val (.int (p3 &&& (3 : Int32))), .val (.long (0 : Int64)), .second, .unset, .unset, .unset, .unset, .unset]) rfl ?_
          show Steps p.tables e below (s₁.setTop (mkF m 28 #[.val (.long q1), .second, .val (.long q2), .second, .val (.int p3), .val (.int (p3 &&& (3 : Int32))), .val (.long (0 : Int64)), .second, .unset, .unset, .unset, .unset, .unset] [])) _
          refine XS.goto X0.here hx rfl (pc0 := 28) (pc' := 38) rfl (hb hby at_28) (by decide) (by decide) ?_
          show Steps p.tables e below (s₁.setTop (mkF m 38 #[.val (.long q1), .second, .val (.long q2), .second, .val (.int p3), .val (.int (p3 &&& (3 : Int32))), .val (.long (0 : Int64)), .second, .unset, .unset, .unset, .unset, .unset] [])) _
          refine st118 _ ?_
          show Steps p.tables e below (T118.setTop (mkF m 41 #[.val (.long q1), .second, .val (.long q2), .second, .val (.int p3), .val (.int (p3 &&& (3 : Int32))), .val (.long (0 : Int64)), .second, .unset, .unset, .unset, .unset, .unset] [(.ref b118)])) _
          refine XS.dup X118.here hx rfl (hb hby at_41) rfl rfl ?_
          show Steps p.tables e below (T118.setTop (mkF m 42 #[.val (.long q1), .second, .val (.long q2), .second, .val (.int p3), .val (.int (p3 &&& (3 : Int32))), .val (.long (0 : Int64)), .second, .unset, .unset, .unset, .unset, .unset] [(.ref b118), (.ref b118)])) _
          refine XS.lloadN X118.here hx rfl (hb hby at_42) rfl ?_
          show Steps p.tables e below (T118.setTop (mkF m 43 #[.val (.long q1), .second, .val (.long q2), .second, .val (.int p3), .val (.int (p3 &&& (3 : Int32))), .val (.long (0 : Int64)), .second, .unset, .unset, .unset, .unset, .unset] [(.long q1), (.ref b118), (.ref b118)])) _
          refine XS.lload X118.here hx rfl (hb hby at_43) rfl ?_
          show Steps p.tables e below (T118.setTop (mkF m 45 #[.val (.long q1), .second, .val (.long q2), .second, .val (.int p3), .val (.int (p3 &&& (3 : Int32))), .val (.long (0 : Int64)), .second, .unset, .unset, .unset, .unset, .unset] [(.long (0 : Int64)), (.long q1), (.ref b118), (.ref b118)])) _
          refine st119.trans ?_
          show Steps p.tables e below (T119.setTop (mkF m 48 #[.val (.long q1), .second, .val (.long q2), .second, .val (.int p3), .val (.int (p3 &&& (3 : Int32))), .val (.long (0 : Int64)), .second, .unset, .unset, .unset, .unset, .unset] [(.ref b118)])) _
          refine XS.astore X119.here hx rfl (hb hby at_48) rfl rfl (l' := #[.val (.long q1), .second, .val (.long q2), .second, .val (.int p3), .val (.int (p3 &&& (3 : Int32))), .val (.long (0 : Int64)), .second, .val (.ref b118), .unset, .unset, .unset, .unset]) rfl ?_
          show Steps p.tables e below (T119.setTop (mkF m 50 #[.val (.long q1), .second, .val (.long q2), .second, .val (.int p3), .val (.int (p3 &&& (3 : Int32))), .val (.long (0 : Int64)), .second, .val (.ref b118), .unset, .unset, .unset, .unset] [])) _
          refine XS.aload X119.here hx rfl (hb hby at_50) rfl rfl ?_
          show Steps p.tables e below (T119.setTop (mkF m 52 #[.val (.long q1), .second, .val (.long q2), .second, .val (.int p3), .val (.int (p3 &&& (3 : Int32))), .val (.long (0 : Int64)), .second, .val (.ref b118), .unset, .unset, .unset, .unset] [(.ref b118)])) _
          refine st121.trans ?_
          show Steps p.tables e below (T121.setTop (mkF m 55 #[.val (.long q1), .second, .val (.long q2), .second, .val (.int p3), .val (.int (p3 &&& (3 : Int32))), .val (.long (0 : Int64)), .second, .val (.ref b118), .unset, .unset, .unset, .unset] [(.int (0 : Int32))])) _
          refine XS.istore X121.here hx rfl (hb hby at_55) rfl (l' := #[.val (.long q1), .second, .val (.long q2), .second, .val (.int p3), .val (.int (p3 &&& (3 : Int32))), .val (.long (0 : Int64)), .second, .val (.ref b118), .val (.int (0 : Int32)), .unset, .unset, .unset]) rfl ?_
          show Steps p.tables e below (T121.setTop (mkF m 57 #[.val (.long q1), .second, .val (.long q2), .second, .val (.int p3), .val (.int (p3 &&& (3 : Int32))), .val (.long (0 : Int64)), .second, .val (.ref b118), .val (.int (0 : Int32)), .unset, .unset, .unset] [])) _
          refine XS.iload X121.here hx rfl (hb hby at_57) rfl ?_
          exact k9)
      have b123 : ¬ ((p3 &&& (3 : Int32)).toInt = (0 : Int)) := by omega
      obtain ⟨cq124, kq124, q124a, q124b, q124c⟩ := isOf hZ e121 E119x
      obtain ⟨_, _, ⟨T124, L124, k124, n124⟩, -, X124, ⟨Lc124, hQ124, l124, y124, z124⟩, st124⟩ := X121.virtualBack hx (y := (⟨"com/example/mass_cluster/masscluster/GzipMembers$Place", "isInMember", "()Z"⟩ : MethodName)) (z := (⟨"com/example/mass_cluster/masscluster/GzipMembers$Place", "isInMember", "()Z"⟩ : MethodName)) hown (mvT hZ (hw _ (List.mem_of_getElem? (i := 24) rfl))) (mvT hZ (hw _ (List.mem_of_getElem? (i := 25) rfl))) (notFace_of_selects (args := #[]) (mvT hZ (hw _ (List.mem_of_getElem? (i := 27) rfl)))) (mvT hZ (hw _ (List.mem_of_getElem? (i := 27) rfl))) (mvT hZ (hw _ (List.mem_of_getElem? (i := 26) rfl))) (by decide) (backOf (W := 1) (rm5 l Z a0 hw [] b118 (0 : Int64) T119.heap n0 Z119 F119_inMember) hZ (hw _ (List.mem_of_getElem? (i := 28) rfl)) (hw _ (List.mem_of_getElem? (i := 3) rfl)) (by decide) (by decide)) q124a q124c (g := (mkF m 80 #[.val (.long q1), .second, .val (.long q2), .second, .val (.int p3), .val (.int (p3 &&& (3 : Int32))), .val (.long (0 : Int64)), .second, .val (.ref b118), .val (.int (0 : Int32)), .val (.int (0 : Int32)), .unset, .unset] [(.ref b118), (.int (0 : Int32))])) rfl (by rw [hml]; rfl) (Steps.refl _) (argsL := []) (rest := [(.int (0 : Int32))]) (lenOf pd_0_1 rfl) rfl (by show 2 * 0 + _ ≤ _; exact Nat.le_of_eq rfl) (hb hby at_80) (fun _ _ => ⟨rfl, e121, (by decide : 1 + 0 ≤ _), (by decide : 2 + 0 ≤ _)⟩)
      dsimp only [Pt.U, Pt.locs, Pt.cells, Pt.slots] at X124 l124 y124 z124 st124 hQ124
      subst l124 y124 z124
      obtain ⟨hv124, N124q, e124⟩ := hQ124
      have r124 : (own_v5 (0 : Int64)) = (1 : Int32) := by decide
      rw [r124] at hv124
      subst hv124
      have N124 := Fr.app N121 N124q
      obtain ⟨_, _, ⟨T125, L125, k125, n125⟩, -, X125, ⟨Lc125, hQ125, l125, y125, z125⟩, st125⟩ := Jvm.LawKit.callS X124 hx (y := (⟨"com/example/mass_cluster/masscluster/GzipMembers$Place", "inFile", "(J)Lcom/example/mass_cluster/masscluster/GzipMembers$Place;"⟩ : MethodName)) hown (mvT hZ (hw _ (List.mem_of_getElem? (i := 30) rfl))) (mvT hZ (hw _ (List.mem_of_getElem? (i := 31) rfl))) (mvT hZ (hw _ (List.mem_of_getElem? (i := 3) rfl))) (mvT hZ (hw _ (List.mem_of_getElem? (i := 32) rfl))) (by decide) (backOf (W := 0) (rm6 l Z a0 hw [] q1 T119.heap n0 Z119 ) hZ (hw _ (List.mem_of_getElem? (i := 32) rfl)) (hw _ (List.mem_of_getElem? (i := 3) rfl)) (by decide) (by decide)) (g := (mkF m 109 #[.val (.long q1), .second, .val (.long q2), .second, .val (.int p3), .val (.int (p3 &&& (3 : Int32))), .val (.long (0 : Int64)), .second, .val (.ref b118), .val (.int (0 : Int32)), .val (.int (0 : Int32)), .val (.int (1 : Int32)), .unset] [(.long q1)])) rfl (by rw [hml]; rfl) (argsL := [(.long q1)]) (rest := []) (lenOf pd_0_2 rfl) rfl (by show 2 * 0 + _ ≤ _; exact Nat.le_of_eq rfl) (hb hby at_109) (fun _ _ => ⟨rfl, e124, (by decide : 1 + 1 ≤ _), (by decide : 2 + 2 ≤ _)⟩)
      dsimp only [Pt.U, Pt.locs, Pt.cells, Pt.slots] at X125 l125 y125 z125 st125 hQ125
      subst l125 y125 z125
      obtain ⟨r125, hv125, N125q, K125, sz125, E125x, F125_i⟩ := hQ125
      subst hv125
      have N125 := Fr.app N124 N125q
      have Ek126 := E119x.keep K125
      have Fk127 := F119_offset.keep K125 nin0
      have Fk128 := F119_inMember.keep K125 nin0
      have KK125 := KK119.trans K125 all0
      have Z125 : n0 ≤ T125.heap.size := Nat.le_trans Z119 K125.1
      obtain ⟨cq129, kq129, q129a, q129b, q129c⟩ := isOf hZ rfl E125x
      obtain ⟨_, _, ⟨T129, L129, k129, n129⟩, -, X129, ⟨Lc129, hQ129, l129, y129, z129⟩, st129⟩ := X125.virtualBack hx (y := (⟨"com/example/mass_cluster/masscluster/GzipMembers$Place", "isPastMemberStart", "()Z"⟩ : MethodName)) (z := (⟨"com/example/mass_cluster/masscluster/GzipMembers$Place", "isPastMemberStart", "()Z"⟩ : MethodName)) hown (mvT hZ (hw _ (List.mem_of_getElem? (i := 19) rfl))) (mvT hZ (hw _ (List.mem_of_getElem? (i := 20) rfl))) (notFace_of_selects (args := #[]) (mvT hZ (hw _ (List.mem_of_getElem? (i := 22) rfl)))) (mvT hZ (hw _ (List.mem_of_getElem? (i := 22) rfl))) (mvT hZ (hw _ (List.mem_of_getElem? (i := 21) rfl))) (by decide) (backOf (W := 0) (rm4 l Z a0 hw [] r125 (-1 : Int64) T125.heap n0 Z125 F125_i) hZ (hw _ (List.mem_of_getElem? (i := 23) rfl)) (hw _ (List.mem_of_getElem? (i := 3) rfl)) (by decide) (by decide)) q129a q129c (g := (mkF m 112 #[.val (.long q1), .second, .val (.long q2), .second, .val (.int p3), .val (.int (p3 &&& (3 : Int32))), .val (.long (0 : Int64)), .second, .val (.ref b118), .val (.int (0 : Int32)), .val (.int (0 : Int32)), .val (.int (1 : Int32)), .unset] [(.ref r125)])) rfl (by rw [hml]; rfl) (Steps.refl _) (argsL := []) (rest := []) (lenOf pd_0_1 rfl) rfl (by show 2 * 0 + _ ≤ _; exact Nat.le_of_eq rfl) (hb hby at_112) (fun _ _ => ⟨rfl, rfl, (by decide : 2 + 0 ≤ _), (by decide : 4 + 0 ≤ _)⟩)
      dsimp only [Pt.U, Pt.locs, Pt.cells, Pt.slots] at X129 l129 y129 z129 st129 hQ129
      subst l129 y129 z129
      obtain ⟨hv129, N129q, e129⟩ := hQ129
      have r129 : (own_v4 (-1 : Int64)) = (0 : Int32) := by decide
      rw [r129] at hv129
      subst hv129
      have N129 := Fr.app N125 N129q
      have pre130 : ∀ t, Steps p.tables e below (T129.setTop (mkF m 147 #[.val (.long q1), .second, .val (.long q2), .second, .val (.int p3), .val (.int (p3 &&& (3 : Int32))), .val (.long (0 : Int64)), .second, .val (.ref b118), .val (.int (0 : Int32)), .val (.int (0 : Int32)), .val (.int (1 : Int32)), .val (.int (1 : Int32))] [(.int (1 : Int32))])) t → Steps p.tables e below (s₁.setTop (entryFrame m #[(.long q1), (.long q2), (.int p3)] maxLocals)) t := fun t9 k9 => pre122 t9 (by
          show Steps p.tables e below (T121.setTop (mkF m 59 #[.val (.long q1), .second, .val (.long q2), .second, .val (.int p3), .val (.int (p3 &&& (3 : Int32))), .val (.long (0 : Int64)), .second, .val (.ref b118), .val (.int (0 : Int32)), .unset, .unset, .unset] [(.int (p3 &&& (3 : Int32)))])) _
          refine XS.ifNo X121.here hx rfl (hb hby at_59) rfl ((if0 _ _).trans (own_eq_f (a := (p3 &&& (3 : Int32)).toInt) (b := (0 : Int)) rfl (by decide) b123)) ?_
          show Steps p.tables e below (T121.setTop (mkF m 62 #[.val (.long q1), .second, .val (.long q2), .second, .val (.int p3), .val (.int (p3 &&& (3 : Int32))), .val (.long (0 : Int64)), .second, .val (.ref b118), .val (.int (0 : Int32)), .unset, .unset, .unset] [])) _
          refine XS.lload X121.here hx rfl (hb hby at_62) rfl ?_
          show Steps p.tables e below (T121.setTop (mkF m 64 #[.val (.long q1), .second, .val (.long q2), .second, .val (.int p3), .val (.int (p3 &&& (3 : Int32))), .val (.long (0 : Int64)), .second, .val (.ref b118), .val (.int (0 : Int32)), .unset, .unset, .unset] [(.long (0 : Int64))])) _
          refine XS.lconst X121.here hx rfl (hb hby at_64) ?_
          show Steps p.tables e below (T121.setTop (mkF m 65 #[.val (.long q1), .second, .val (.long q2), .second, .val (.int p3), .val (.int (p3 &&& (3 : Int32))), .val (.long (0 : Int64)), .second, .val (.ref b118), .val (.int (0 : Int32)), .unset, .unset, .unset] [(.long (0 : Int64)), (.long (0 : Int64))])) _
          refine XS.lcmp X121.here hx rfl (hb hby at_65) rfl ?_
          show Steps p.tables e below (T121.setTop (mkF m 66 #[.val (.long q1), .second, .val (.long q2), .second, .val (.int p3), .val (.int (p3 &&& (3 : Int32))), .val (.long (0 : Int64)), .second, .val (.ref b118), .val (.int (0 : Int32)), .unset, .unset, .unset] [(.int (lcmpW (0 : Int64) (0 : Int64)))])) _
          refine XS.ifYes X121.here hx rfl (pc0 := 66) (pc' := 73) rfl (hb hby at_66) rfl (own_Leq_t (a := (0 : Int)) (b := (0 : Int)) (by decide) (by decide) (by decide)) (by decide) (by decide) ?_
          show Steps p.tables e below (T121.setTop (mkF m 73 #[.val (.long q1), .second, .val (.long q2), .second, .val (.int p3), .val (.int (p3 &&& (3 : Int32))), .val (.long (0 : Int64)), .second, .val (.ref b118), .val (.int (0 : Int32)), .unset, .unset, .unset] [])) _
          refine XS.iconst X121.here hx rfl (hb hby at_73) ?_
          show Steps p.tables e below (T121.setTop (mkF m 74 #[.val (.long q1), .second, .val (.long q2), .second, .val (.int p3), .val (.int (p3 &&& (3 : Int32))), .val (.long (0 : Int64)), .second, .val (.ref b118), .val (.int (0 : Int32)), .unset, .unset, .unset] [(.int (0 : Int32))])) _
          refine XS.istore X121.here hx rfl (hb hby at_74) rfl (l' := #[.val (.long q1), .second, .val (.long q2), .second, .val (.int p3), .val (.int (p3 &&& (3 : Int32))), .val (.long (0 : Int64)), .second, .val (.ref b118), .val (.int (0 : Int32)), .val (.int (0 : Int32)), .unset, .unset]) rfl ?_
          show Steps p.tables e below (T121.setTop (mkF m 76 #[.val (.long q1), .second, .val (.long q2), .second, .val (.int p3), .val (.int (p3 &&& (3 : Int32))), .val (.long (0 : Int64)), .second, .val (.ref b118), .val (.int (0 : Int32)), .val (.int (0 : Int32)), .unset, .unset] [])) _
          refine XS.iload X121.here hx rfl (hb hby at_76) rfl ?_
          show Steps p.tables e below (T121.setTop (mkF m 78 #[.val (.long q1), .second, .val (.long q2), .second, .val (.int p3), .val (.int (p3 &&& (3 : Int32))), .val (.long (0 : Int64)), .second, .val (.ref b118), .val (.int (0 : Int32)), .val (.int (0 : Int32)), .unset, .unset] [(.int (0 : Int32))])) _
          refine XS.aload X121.here hx rfl (hb hby at_78) rfl rfl ?_
          show Steps p.tables e below (T121.setTop (mkF m 80 #[.val (.long q1), .second, .val (.long q2), .second, .val (.int p3), .val (.int (p3 &&& (3 : Int32))), .val (.long (0 : Int64)), .second, .val (.ref b118), .val (.int (0 : Int32)), .val (.int (0 : Int32)), .unset, .unset] [(.ref b118), (.int (0 : Int32))])) _
          refine st124.trans ?_
          show Steps p.tables e below (T124.setTop (mkF m 83 #[.val (.long q1), .second, .val (.long q2), .second, .val (.int p3), .val (.int (p3 &&& (3 : Int32))), .val (.long (0 : Int64)), .second, .val (.ref b118), .val (.int (0 : Int32)), .val (.int (0 : Int32)), .unset, .unset] [(.int (1 : Int32)), (.int (0 : Int32))])) _
          refine XS.ifNo X124.here hx rfl (hb hby at_83) rfl ((if0 _ _).trans (own_eq_f (a := (1 : Int)) (b := (0 : Int)) (by decide) (by decide) (by decide))) ?_
          show Steps p.tables e below (T124.setTop (mkF m 86 #[.val (.long q1), .second, .val (.long q2), .second, .val (.int p3), .val (.int (p3 &&& (3 : Int32))), .val (.long (0 : Int64)), .second, .val (.ref b118), .val (.int (0 : Int32)), .val (.int (0 : Int32)), .unset, .unset] [(.int (0 : Int32))])) _
          refine XS.lload X124.here hx rfl (hb hby at_86) rfl ?_
          show Steps p.tables e below (T124.setTop (mkF m 88 #[.val (.long q1), .second, .val (.long q2), .second, .val (.int p3), .val (.int (p3 &&& (3 : Int32))), .val (.long (0 : Int64)), .second, .val (.ref b118), .val (.int (0 : Int32)), .val (.int (0 : Int32)), .unset, .unset] [(.long (0 : Int64)), (.int (0 : Int32))])) _
          refine XS.lconst X124.here hx rfl (hb hby at_88) ?_
          show Steps p.tables e below (T124.setTop (mkF m 89 #[.val (.long q1), .second, .val (.long q2), .second, .val (.int p3), .val (.int (p3 &&& (3 : Int32))), .val (.long (0 : Int64)), .second, .val (.ref b118), .val (.int (0 : Int32)), .val (.int (0 : Int32)), .unset, .unset] [(.long (0 : Int64)), (.long (0 : Int64)), (.int (0 : Int32))])) _
          refine XS.lcmp X124.here hx rfl (hb hby at_89) rfl ?_
          show Steps p.tables e below (T124.setTop (mkF m 90 #[.val (.long q1), .second, .val (.long q2), .second, .val (.int p3), .val (.int (p3 &&& (3 : Int32))), .val (.long (0 : Int64)), .second, .val (.ref b118), .val (.int (0 : Int32)), .val (.int (0 : Int32)), .unset, .unset] [(.int (lcmpW (0 : Int64) (0 : Int64))), (.int (0 : Int32))])) _
          refine XS.ifYes X124.here hx rfl (pc0 := 90) (pc' := 97) rfl (hb hby at_90) rfl (own_Leq_t (a := (0 : Int)) (b := (0 : Int)) (by decide) (by decide) (by decide)) (by decide) (by decide) ?_
          show Steps p.tables e below (T124.setTop (mkF m 97 #[.val (.long q1), .second, .val (.long q2), .second, .val (.int p3), .val (.int (p3 &&& (3 : Int32))), .val (.long (0 : Int64)), .second, .val (.ref b118), .val (.int (0 : Int32)), .val (.int (0 : Int32)), .unset, .unset] [(.int (0 : Int32))])) _
          refine XS.iconst X124.here hx rfl (hb hby at_97) ?_
          show Steps p.tables e below (T124.setTop (mkF m 98 #[.val (.long q1), .second, .val (.long q2), .second, .val (.int p3), .val (.int (p3 &&& (3 : Int32))), .val (.long (0 : Int64)), .second, .val (.ref b118), .val (.int (0 : Int32)), .val (.int (0 : Int32)), .unset, .unset] [(.int (0 : Int32)), (.int (0 : Int32))])) _
          refine XS.icmpNo X124.here hx rfl (hb hby at_98) rfl (own_ne_f (a := (0 : Int)) (b := (0 : Int)) (by decide) (by decide) (by decide)) ?_
          show Steps p.tables e below (T124.setTop (mkF m 101 #[.val (.long q1), .second, .val (.long q2), .second, .val (.int p3), .val (.int (p3 &&& (3 : Int32))), .val (.long (0 : Int64)), .second, .val (.ref b118), .val (.int (0 : Int32)), .val (.int (0 : Int32)), .unset, .unset] [])) _
          refine XS.iconst X124.here hx rfl (hb hby at_101) ?_
          show Steps p.tables e below (T124.setTop (mkF m 102 #[.val (.long q1), .second, .val (.long q2), .second, .val (.int p3), .val (.int (p3 &&& (3 : Int32))), .val (.long (0 : Int64)), .second, .val (.ref b118), .val (.int (0 : Int32)), .val (.int (0 : Int32)), .unset, .unset] [(.int (1 : Int32))])) _
          refine XS.goto X124.here hx rfl (pc0 := 102) (pc' := 106) rfl (hb hby at_102) (by decide) (by decide) ?_
          show Steps p.tables e below (T124.setTop (mkF m 106 #[.val (.long q1), .second, .val (.long q2), .second, .val (.int p3), .val (.int (p3 &&& (3 : Int32))), .val (.long (0 : Int64)), .second, .val (.ref b118), .val (.int (0 : Int32)), .val (.int (0 : Int32)), .unset, .unset] [(.int (1 : Int32))])) _
          refine XS.istore X124.here hx rfl (hb hby at_106) rfl (l' := #[.val (.long q1), .second, .val (.long q2), .second, .val (.int p3), .val (.int (p3 &&& (3 : Int32))), .val (.long (0 : Int64)), .second, .val (.ref b118), .val (.int (0 : Int32)), .val (.int (0 : Int32)), .val (.int (1 : Int32)), .unset]) rfl ?_
          show Steps p.tables e below (T124.setTop (mkF m 108 #[.val (.long q1), .second, .val (.long q2), .second, .val (.int p3), .val (.int (p3 &&& (3 : Int32))), .val (.long (0 : Int64)), .second, .val (.ref b118), .val (.int (0 : Int32)), .val (.int (0 : Int32)), .val (.int (1 : Int32)), .unset] [])) _
          refine XS.lloadN X124.here hx rfl (hb hby at_108) rfl ?_
          show Steps p.tables e below (T124.setTop (mkF m 109 #[.val (.long q1), .second, .val (.long q2), .second, .val (.int p3), .val (.int (p3 &&& (3 : Int32))), .val (.long (0 : Int64)), .second, .val (.ref b118), .val (.int (0 : Int32)), .val (.int (0 : Int32)), .val (.int (1 : Int32)), .unset] [(.long q1)])) _
          refine st125 _ ?_
          show Steps p.tables e below (T125.setTop (mkF m 112 #[.val (.long q1), .second, .val (.long q2), .second, .val (.int p3), .val (.int (p3 &&& (3 : Int32))), .val (.long (0 : Int64)), .second, .val (.ref b118), .val (.int (0 : Int32)), .val (.int (0 : Int32)), .val (.int (1 : Int32)), .unset] [(.ref r125)])) _
          refine st129.trans ?_
          show Steps p.tables e below (T129.setTop (mkF m 115 #[.val (.long q1), .second, .val (.long q2), .second, .val (.int p3), .val (.int (p3 &&& (3 : Int32))), .val (.long (0 : Int64)), .second, .val (.ref b118), .val (.int (0 : Int32)), .val (.int (0 : Int32)), .val (.int (1 : Int32)), .unset] [(.int (0 : Int32))])) _
          refine XS.ifNo X129.here hx rfl (hb hby at_115) rfl ((if0 _ _).trans (own_ne_f (a := (0 : Int)) (b := (0 : Int)) (by decide) (by decide) (by decide))) ?_
          show Steps p.tables e below (T129.setTop (mkF m 118 #[.val (.long q1), .second, .val (.long q2), .second, .val (.int p3), .val (.int (p3 &&& (3 : Int32))), .val (.long (0 : Int64)), .second, .val (.ref b118), .val (.int (0 : Int32)), .val (.int (0 : Int32)), .val (.int (1 : Int32)), .unset] [])) _
          refine XS.iconst X129.here hx rfl (hb hby at_118) ?_
          show Steps p.tables e below (T129.setTop (mkF m 119 #[.val (.long q1), .second, .val (.long q2), .second, .val (.int p3), .val (.int (p3 &&& (3 : Int32))), .val (.long (0 : Int64)), .second, .val (.ref b118), .val (.int (0 : Int32)), .val (.int (0 : Int32)), .val (.int (1 : Int32)), .unset] [(.int (1 : Int32))])) _
          refine XS.goto X129.here hx rfl (pc0 := 119) (pc' := 123) rfl (hb hby at_119) (by decide) (by decide) ?_
          show Steps p.tables e below (T129.setTop (mkF m 123 #[.val (.long q1), .second, .val (.long q2), .second, .val (.int p3), .val (.int (p3 &&& (3 : Int32))), .val (.long (0 : Int64)), .second, .val (.ref b118), .val (.int (0 : Int32)), .val (.int (0 : Int32)), .val (.int (1 : Int32)), .unset] [(.int (1 : Int32))])) _
          refine XS.istore X129.here hx rfl (hb hby at_123) rfl (l' := #[.val (.long q1), .second, .val (.long q2), .second, .val (.int p3), .val (.int (p3 &&& (3 : Int32))), .val (.long (0 : Int64)), .second, .val (.ref b118), .val (.int (0 : Int32)), .val (.int (0 : Int32)), .val (.int (1 : Int32)), .val (.int (1 : Int32))]) rfl ?_
          show Steps p.tables e below (T129.setTop (mkF m 125 #[.val (.long q1), .second, .val (.long q2), .second, .val (.int p3), .val (.int (p3 &&& (3 : Int32))), .val (.long (0 : Int64)), .second, .val (.ref b118), .val (.int (0 : Int32)), .val (.int (0 : Int32)), .val (.int (1 : Int32)), .val (.int (1 : Int32))] [])) _
          refine XS.iload X129.here hx rfl (hb hby at_125) rfl ?_
          show Steps p.tables e below (T129.setTop (mkF m 127 #[.val (.long q1), .second, .val (.long q2), .second, .val (.int p3), .val (.int (p3 &&& (3 : Int32))), .val (.long (0 : Int64)), .second, .val (.ref b118), .val (.int (0 : Int32)), .val (.int (0 : Int32)), .val (.int (1 : Int32)), .val (.int (1 : Int32))] [(.int (0 : Int32))])) _
          refine XS.iload X129.here hx rfl (hb hby at_127) rfl ?_
          show Steps p.tables e below (T129.setTop (mkF m 129 #[.val (.long q1), .second, .val (.long q2), .second, .val (.int p3), .val (.int (p3 &&& (3 : Int32))), .val (.long (0 : Int64)), .second, .val (.ref b118), .val (.int (0 : Int32)), .val (.int (0 : Int32)), .val (.int (1 : Int32)), .val (.int (1 : Int32))] [(.int (0 : Int32)), (.int (0 : Int32))])) _
          refine XS.icmpNo X129.here hx rfl (hb hby at_129) rfl (own_ne_f (a := (0 : Int)) (b := (0 : Int)) (by decide) (by decide) (by decide)) ?_
          show Steps p.tables e below (T129.setTop (mkF m 132 #[.val (.long q1), .second, .val (.long q2), .second, .val (.int p3), .val (.int (p3 &&& (3 : Int32))), .val (.long (0 : Int64)), .second, .val (.ref b118), .val (.int (0 : Int32)), .val (.int (0 : Int32)), .val (.int (1 : Int32)), .val (.int (1 : Int32))] [])) _
          refine XS.iload X129.here hx rfl (hb hby at_132) rfl ?_
          show Steps p.tables e below (T129.setTop (mkF m 134 #[.val (.long q1), .second, .val (.long q2), .second, .val (.int p3), .val (.int (p3 &&& (3 : Int32))), .val (.long (0 : Int64)), .second, .val (.ref b118), .val (.int (0 : Int32)), .val (.int (0 : Int32)), .val (.int (1 : Int32)), .val (.int (1 : Int32))] [(.int (1 : Int32))])) _
          refine XS.ifNo X129.here hx rfl (hb hby at_134) rfl ((if0 _ _).trans (own_eq_f (a := (1 : Int)) (b := (0 : Int)) (by decide) (by decide) (by decide))) ?_
          show Steps p.tables e below (T129.setTop (mkF m 137 #[.val (.long q1), .second, .val (.long q2), .second, .val (.int p3), .val (.int (p3 &&& (3 : Int32))), .val (.long (0 : Int64)), .second, .val (.ref b118), .val (.int (0 : Int32)), .val (.int (0 : Int32)), .val (.int (1 : Int32)), .val (.int (1 : Int32))] [])) _
          refine XS.iload X129.here hx rfl (hb hby at_137) rfl ?_
          show Steps p.tables e below (T129.setTop (mkF m 139 #[.val (.long q1), .second, .val (.long q2), .second, .val (.int p3), .val (.int (p3 &&& (3 : Int32))), .val (.long (0 : Int64)), .second, .val (.ref b118), .val (.int (0 : Int32)), .val (.int (0 : Int32)), .val (.int (1 : Int32)), .val (.int (1 : Int32))] [(.int (1 : Int32))])) _
          refine XS.ifNo X129.here hx rfl (hb hby at_139) rfl ((if0 _ _).trans (own_eq_f (a := (1 : Int)) (b := (0 : Int)) (by decide) (by decide) (by decide))) ?_
          show Steps p.tables e below (T129.setTop (mkF m 142 #[.val (.long q1), .second, .val (.long q2), .second, .val (.int p3), .val (.int (p3 &&& (3 : Int32))), .val (.long (0 : Int64)), .second, .val (.ref b118), .val (.int (0 : Int32)), .val (.int (0 : Int32)), .val (.int (1 : Int32)), .val (.int (1 : Int32))] [])) _
          refine XS.iconst X129.here hx rfl (hb hby at_142) ?_
          show Steps p.tables e below (T129.setTop (mkF m 143 #[.val (.long q1), .second, .val (.long q2), .second, .val (.int p3), .val (.int (p3 &&& (3 : Int32))), .val (.long (0 : Int64)), .second, .val (.ref b118), .val (.int (0 : Int32)), .val (.int (0 : Int32)), .val (.int (1 : Int32)), .val (.int (1 : Int32))] [(.int (1 : Int32))])) _
          refine XS.goto X129.here hx rfl (pc0 := 143) (pc' := 147) rfl (hb hby at_143) (by decide) (by decide) ?_
          exact k9)
      obtain ⟨fs, hr, hrun, hended, hW, hsame⟩ := X129.leave (v := some (.int (1 : Int32))) (fun h => by rw [Bd.returns] at h; cases h)
      refine ⟨_, _, pre130 _ ?_, hrun, hended, _, _, rfl, ?_, ⟨_, rfl⟩, hW, hsame.mono (by decide) (by decide)⟩
      · show Steps p.tables e below (T129.setTop (mkF m 147 #[.val (.long q1), .second, .val (.long q2), .second, .val (.int p3), .val (.int (p3 &&& (3 : Int32))), .val (.long (0 : Int64)), .second, .val (.ref b118), .val (.int (0 : Int32)), .val (.int (0 : Int32)), .val (.int (1 : Int32)), .val (.int (1 : Int32))] [(.int (1 : Int32))])) _
        exact retN X129 hx (t := .boolean) Bd.returns (by simp) (hb hby at_147) hr
      · show Q0 Z q1 q2 p3 h0 n0 _ T129.heap _
        rw [e129]
        exact ⟨rfl, N129⟩
    · obtain ⟨T131, h131, X131, e131, E131, A131, D131, -, st131⟩ := newO X0 hx hZ hown (hw _ (List.mem_of_getElem? (i := 1) rfl)) (hw _ (List.mem_of_getElem? (i := 2) rfl)) (hw _ (List.mem_of_getElem? (i := 3) rfl)) e0 (g := (mkF m 38 #[.val (.long q1), .second, .val (.long q2), .second, .val (.int p3), .val (.int (p3 &&& (3 : Int32))), .val (.long (q2 &&& (9223372036854775807 : Int64))), .second, .unset, .unset, .unset, .unset, .unset] [])) rfl (hb hby at_38) (by decide) (by decide)
      obtain ⟨b131, g131⟩ : ∃ z, z = h0.size := ⟨_, rfl⟩
      rw [← g131] at A131 D131 st131
      have g_b131 : n0 ≤ b131 := Nat.le_trans Z0 (Nat.le_of_eq g131.symm)
      have sz_b131 : h0.size ≤ b131 := Nat.le_trans (Keep.refl h0 []).1 (Nat.le_of_eq g131.symm)
      have F131_offset : Fld Z h131 b131 "com/example/mass_cluster/masscluster/GzipMembers$Place" "offset" "J" (.long (0 : Int64)) := D131 (Or.inr (hw _ (List.mem_of_getElem? (i := 16) rfl))) (ty := .long) (by decide)
      have F131_inMember : Fld Z h131 b131 "com/example/mass_cluster/masscluster/GzipMembers$Place" "inMember" "J" (.long (0 : Int64)) := D131 (Or.inr (hw _ (List.mem_of_getElem? (i := 18) rfl))) (ty := .long) (by decide)
      have K131 := (Keep.refl h0 []).ext E131
      have Z131 : n0 ≤ h131.size := Nat.le_trans Z0 E131.1
      obtain ⟨_, _, ⟨T132, L132, k132, n132⟩, -, X132, ⟨Lc132, hQ132, l132, y132, z132⟩, st132⟩ := X131.specialBack hx (y := (⟨"com/example/mass_cluster/masscluster/GzipMembers$Place", "<init>", "(JJ)V"⟩ : MethodName)) rfl hown (mvT hZ (hw _ (List.mem_of_getElem? (i := 4) rfl))) (mvT hZ (hw _ (List.mem_of_getElem? (i := 5) rfl))) (mvT hZ (hw _ (List.mem_of_getElem? (i := 6) rfl))) (by decide) (backOf (W := 1) (rm1 l Z a0 hw [] b131 q1 (q2 &&& (9223372036854775807 : Int64)) h131 n0 Z131 A131 F131_offset F131_inMember g_b131) hZ (hw _ (List.mem_of_getElem? (i := 6) rfl)) (hw _ (List.mem_of_getElem? (i := 3) rfl)) (by decide) (by decide)) (g := (mkF m 45 #[.val (.long q1), .second, .val (.long q2), .second, .val (.int p3), .val (.int (p3 &&& (3 : Int32))), .val (.long (q2 &&& (9223372036854775807 : Int64))), .second, .unset, .unset, .unset, .unset, .unset] [(.long (q2 &&& (9223372036854775807 : Int64))), (.long q1), (.ref b131), (.ref b131)])) rfl (by rw [hml]; rfl) (Steps.refl _) (a := b131) (argsL := [(.long q1), (.long (q2 &&& (9223372036854775807 : Int64)))]) (rest := [(.ref b131)]) (lenOf pd_0_0 rfl) rfl (by show 2 * 0 + _ ≤ _; exact Nat.le_of_eq rfl) (hb hby at_45) (fun _ _ => ⟨rfl, e131, (by decide : 1 + 0 ≤ _), (by decide : 2 + 0 ≤ _)⟩)
      dsimp only [Pt.U, Pt.locs, Pt.cells, Pt.slots] at X132 l132 y132 z132 st132 hQ132
      subst l132 y132 z132
      obtain ⟨hv132, N132q, K132, E132x, F132_offset, F132_inMember⟩ := hQ132
      subst hv132
      have N132 := Fr.app N0 N132q
      have Ek133 := A131.keep K132
      have KK132 := K131.trans K132 (allS (Or.inr sz_b131) all0)
      have Z132 : n0 ≤ T132.heap.size := Nat.le_trans Z131 K132.1
      obtain ⟨cq134, kq134, q134a, q134b, q134c⟩ := isOf hZ rfl E132x
      obtain ⟨_, _, ⟨T134, L134, k134, n134⟩, -, X134, ⟨Lc134, hQ134, l134, y134, z134⟩, st134⟩ := X132.virtualBack hx (y := (⟨"com/example/mass_cluster/masscluster/GzipMembers$Place", "isPastMemberStart", "()Z"⟩ : MethodName)) (z := (⟨"com/example/mass_cluster/masscluster/GzipMembers$Place", "isPastMemberStart", "()Z"⟩ : MethodName)) hown (mvT hZ (hw _ (List.mem_of_getElem? (i := 19) rfl))) (mvT hZ (hw _ (List.mem_of_getElem? (i := 20) rfl))) (notFace_of_selects (args := #[]) (mvT hZ (hw _ (List.mem_of_getElem? (i := 22) rfl)))) (mvT hZ (hw _ (List.mem_of_getElem? (i := 22) rfl))) (mvT hZ (hw _ (List.mem_of_getElem? (i := 21) rfl))) (by decide) (backOf (W := 0) (rm4 l Z a0 hw [] b131 (q2 &&& (9223372036854775807 : Int64)) T132.heap n0 Z132 F132_inMember) hZ (hw _ (List.mem_of_getElem? (i := 23) rfl)) (hw _ (List.mem_of_getElem? (i := 3) rfl)) (by decide) (by decide)) q134a q134c (g := (mkF m 52 #[.val (.long q1), .second, .val (.long q2), .second, .val (.int p3), .val (.int (p3 &&& (3 : Int32))), .val (.long (q2 &&& (9223372036854775807 : Int64))), .second, .val (.ref b131), .unset, .unset, .unset, .unset] [(.ref b131)])) rfl (by rw [hml]; rfl) (Steps.refl _) (argsL := []) (rest := []) (lenOf pd_0_1 rfl) rfl (by show 2 * 0 + _ ≤ _; exact Nat.le_of_eq rfl) (hb hby at_52) (fun _ _ => ⟨rfl, rfl, (by decide : 1 + 0 ≤ _), (by decide : 2 + 0 ≤ _)⟩)
      dsimp only [Pt.U, Pt.locs, Pt.cells, Pt.slots] at X134 l134 y134 z134 st134 hQ134
      subst l134 y134 z134
      obtain ⟨hv134, N134q, e134⟩ := hQ134
      subst hv134
      have N134 := Fr.app N132 N134q
      have pre135 : ∀ t, Steps p.tables e below (T134.setTop (mkF m 59 #[.val (.long q1), .second, .val (.long q2), .second, .val (.int p3), .val (.int (p3 &&& (3 : Int32))), .val (.long (q2 &&& (9223372036854775807 : Int64))), .second, .val (.ref b131), .val (.int (own_v4 (q2 &&& (9223372036854775807 : Int64)))), .unset, .unset, .unset] [(.int (p3 &&& (3 : Int32)))])) t → Steps p.tables e below (s₁.setTop (entryFrame m #[(.long q1), (.long q2), (.int p3)] maxLocals)) t := fun t9 k9 => pre116 t9 (by
          show Steps p.tables e below (s₁.setTop (mkF m 22 #[.val (.long q1), .second, .val (.long q2), .second, .val (.int p3), .val (.int (p3 &&& (3 : Int32))), .unset, .unset, .unset, .unset, .unset, .unset, .unset] [(.int (1 : Int32)), (.int (p3 &&& (3 : Int32)))])) _
          refine XS.icmpYes X0.here hx rfl (pc0 := 22) (pc' := 31) rfl (hb hby at_22) rfl (own_ne_t (a := (p3 &&& (3 : Int32)).toInt) (b := (1 : Int)) rfl (by decide) b117) (by decide) (by decide) ?_
          show Steps p.tables e below (s₁.setTop (mkF m 31 #[.val (.long q1), .second, .val (.long q2), .second, .val (.int p3), .val (.int (p3 &&& (3 : Int32))), .unset, .unset, .unset, .unset, .unset, .unset, .unset] [])) _
          refine XS.lloadN X0.here hx rfl (hb hby at_31) rfl ?_
          show Steps p.tables e below (s₁.setTop (mkF m 32 #[.val (.long q1), .second, .val (.long q2), .second, .val (.int p3), .val (.int (p3 &&& (3 : Int32))), .unset, .unset, .unset, .unset, .unset, .unset, .unset] [(.long q2)])) _
          refine X0.ldc2Long hx hown (mvT hZ (hw _ (List.mem_of_getElem? (i := 35) rfl))) (g := (mkF m 32 #[.val (.long q1), .second, .val (.long q2), .second, .val (.int p3), .val (.int (p3 &&& (3 : Int32))), .unset, .unset, .unset, .unset, .unset, .unset, .unset] [(.long q2)])) rfl (hb hby at_32) _ ?_
          show Steps p.tables e below (s₁.setTop (mkF m 35 #[.val (.long q1), .second, .val (.long q2), .second, .val (.int p3), .val (.int (p3 &&& (3 : Int32))), .unset, .unset, .unset, .unset, .unset, .unset, .unset] [(.long (9223372036854775807 : Int64)), (.long q2)])) _
          refine XS.land X0.here hx rfl (hb hby at_35) rfl ?_
          show Steps p.tables e below (s₁.setTop (mkF m 36 #[.val (.long q1), .second, .val (.long q2), .second, .val (.int p3), .val (.int (p3 &&& (3 : Int32))), .unset, .unset, .unset, .unset, .unset, .unset, .unset] [(.long (q2 &&& (9223372036854775807 : Int64)))])) _
          refine XS.lstore X0.here hx rfl (hb hby at_36) rfl (l' := #[.val (.long q1), .second, .val (.long q2), .second, .val (.int p3), .val (.int (p3 &&& (3 : Int32))), .val (.long (q2 &&& (9223372036854775807 : Int64))), .second, .unset, .unset, .unset, .unset, .unset]) rfl ?_
          show Steps p.tables e below (s₁.setTop (mkF m 38 #[.val (.long q1), .second, .val (.long q2), .second, .val (.int p3), .val (.int (p3 &&& (3 : Int32))), .val (.long (q2 &&& (9223372036854775807 : Int64))), .second, .unset, .unset, .unset, .unset, .unset] [])) _
          refine st131 _ ?_
          show Steps p.tables e below (T131.setTop (mkF m 41 #[.val (.long q1), .second, .val (.long q2), .second, .val (.int p3), .val (.int (p3 &&& (3 : Int32))), .val (.long (q2 &&& (9223372036854775807 : Int64))), .second, .unset, .unset, .unset, .unset, .unset] [(.ref b131)])) _
          refine XS.dup X131.here hx rfl (hb hby at_41) rfl rfl ?_
          show Steps p.tables e below (T131.setTop (mkF m 42 #[.val (.long q1), .second, .val (.long q2), .second, .val (.int p3), .val (.int (p3 &&& (3 : Int32))), .val (.long (q2 &&& (9223372036854775807 : Int64))), .second, .unset, .unset, .unset, .unset, .unset] [(.ref b131), (.ref b131)])) _
          refine XS.lloadN X131.here hx rfl (hb hby at_42) rfl ?_
          show Steps p.tables e below (T131.setTop (mkF m 43 #[.val (.long q1), .second, .val (.long q2), .second, .val (.int p3), .val (.int (p3 &&& (3 : Int32))), .val (.long (q2 &&& (9223372036854775807 : Int64))), .second, .unset, .unset, .unset, .unset, .unset] [(.long q1), (.ref b131), (.ref b131)])) _
          refine XS.lload X131.here hx rfl (hb hby at_43) rfl ?_
          show Steps p.tables e below (T131.setTop (mkF m 45 #[.val (.long q1), .second, .val (.long q2), .second, .val (.int p3), .val (.int (p3 &&& (3 : Int32))), .val (.long (q2 &&& (9223372036854775807 : Int64))), .second, .unset, .unset, .unset, .unset, .unset] [(.long (q2 &&& (9223372036854775807 : Int64))), (.long q1), (.ref b131), (.ref b131)])) _
          refine st132.trans ?_
          show Steps p.tables e below (T132.setTop (mkF m 48 #[.val (.long q1), .second, .val (.long q2), .second, .val (.int p3), .val (.int (p3 &&& (3 : Int32))), .val (.long (q2 &&& (9223372036854775807 : Int64))), .second, .unset, .unset, .unset, .unset, .unset] [(.ref b131)])) _
          refine XS.astore X132.here hx rfl (hb hby at_48) rfl rfl (l' := #[.val (.long q1), .second, .val (.long q2), .second, .val (.int p3), .val (.int (p3 &&& (3 : Int32))), .val (.long (q2 &&& (9223372036854775807 : Int64))), .second, .val (.ref b131), .unset, .unset, .unset, .unset]) rfl ?_
          show Steps p.tables e below (T132.setTop (mkF m 50 #[.val (.long q1), .second, .val (.long q2), .second, .val (.int p3), .val (.int (p3 &&& (3 : Int32))), .val (.long (q2 &&& (9223372036854775807 : Int64))), .second, .val (.ref b131), .unset, .unset, .unset, .unset] [])) _
          refine XS.aload X132.here hx rfl (hb hby at_50) rfl rfl ?_
          show Steps p.tables e below (T132.setTop (mkF m 52 #[.val (.long q1), .second, .val (.long q2), .second, .val (.int p3), .val (.int (p3 &&& (3 : Int32))), .val (.long (q2 &&& (9223372036854775807 : Int64))), .second, .val (.ref b131), .unset, .unset, .unset, .unset] [(.ref b131)])) _
          refine st134.trans ?_
          show Steps p.tables e below (T134.setTop (mkF m 55 #[.val (.long q1), .second, .val (.long q2), .second, .val (.int p3), .val (.int (p3 &&& (3 : Int32))), .val (.long (q2 &&& (9223372036854775807 : Int64))), .second, .val (.ref b131), .unset, .unset, .unset, .unset] [(.int (own_v4 (q2 &&& (9223372036854775807 : Int64))))])) _
          refine XS.istore X134.here hx rfl (hb hby at_55) rfl (l' := #[.val (.long q1), .second, .val (.long q2), .second, .val (.int p3), .val (.int (p3 &&& (3 : Int32))), .val (.long (q2 &&& (9223372036854775807 : Int64))), .second, .val (.ref b131), .val (.int (own_v4 (q2 &&& (9223372036854775807 : Int64)))), .unset, .unset, .unset]) rfl ?_
          show Steps p.tables e below (T134.setTop (mkF m 57 #[.val (.long q1), .second, .val (.long q2), .second, .val (.int p3), .val (.int (p3 &&& (3 : Int32))), .val (.long (q2 &&& (9223372036854775807 : Int64))), .second, .val (.ref b131), .val (.int (own_v4 (q2 &&& (9223372036854775807 : Int64)))), .unset, .unset, .unset] [])) _
          refine XS.iload X134.here hx rfl (hb hby at_57) rfl ?_
          exact k9)
      have b136 : ¬ ((p3 &&& (3 : Int32)).toInt = (0 : Int)) := by omega
      have pre137 : ∀ t, Steps p.tables e below (T134.setTop (mkF m 66 #[.val (.long q1), .second, .val (.long q2), .second, .val (.int p3), .val (.int (p3 &&& (3 : Int32))), .val (.long (q2 &&& (9223372036854775807 : Int64))), .second, .val (.ref b131), .val (.int (own_v4 (q2 &&& (9223372036854775807 : Int64)))), .unset, .unset, .unset] [(.int (lcmpW (q2 &&& (9223372036854775807 : Int64)) (0 : Int64)))])) t → Steps p.tables e below (s₁.setTop (entryFrame m #[(.long q1), (.long q2), (.int p3)] maxLocals)) t := fun t9 k9 => pre135 t9 (by
          show Steps p.tables e below (T134.setTop (mkF m 59 #[.val (.long q1), .second, .val (.long q2), .second, .val (.int p3), .val (.int (p3 &&& (3 : Int32))), .val (.long (q2 &&& (9223372036854775807 : Int64))), .second, .val (.ref b131), .val (.int (own_v4 (q2 &&& (9223372036854775807 : Int64)))), .unset, .unset, .unset] [(.int (p3 &&& (3 : Int32)))])) _
          refine XS.ifNo X134.here hx rfl (hb hby at_59) rfl ((if0 _ _).trans (own_eq_f (a := (p3 &&& (3 : Int32)).toInt) (b := (0 : Int)) rfl (by decide) b136)) ?_
          show Steps p.tables e below (T134.setTop (mkF m 62 #[.val (.long q1), .second, .val (.long q2), .second, .val (.int p3), .val (.int (p3 &&& (3 : Int32))), .val (.long (q2 &&& (9223372036854775807 : Int64))), .second, .val (.ref b131), .val (.int (own_v4 (q2 &&& (9223372036854775807 : Int64)))), .unset, .unset, .unset] [])) _
          refine XS.lload X134.here hx rfl (hb hby at_62) rfl ?_
          show Steps p.tables e below (T134.setTop (mkF m 64 #[.val (.long q1), .second, .val (.long q2), .second, .val (.int p3), .val (.int (p3 &&& (3 : Int32))), .val (.long (q2 &&& (9223372036854775807 : Int64))), .second, .val (.ref b131), .val (.int (own_v4 (q2 &&& (9223372036854775807 : Int64)))), .unset, .unset, .unset] [(.long (q2 &&& (9223372036854775807 : Int64)))])) _
          refine XS.lconst X134.here hx rfl (hb hby at_64) ?_
          show Steps p.tables e below (T134.setTop (mkF m 65 #[.val (.long q1), .second, .val (.long q2), .second, .val (.int p3), .val (.int (p3 &&& (3 : Int32))), .val (.long (q2 &&& (9223372036854775807 : Int64))), .second, .val (.ref b131), .val (.int (own_v4 (q2 &&& (9223372036854775807 : Int64)))), .unset, .unset, .unset] [(.long (0 : Int64)), (.long (q2 &&& (9223372036854775807 : Int64)))])) _
          refine XS.lcmp X134.here hx rfl (hb hby at_65) rfl ?_
          exact k9)
      by_cases b138 : (q2 &&& (9223372036854775807 : Int64)).toInt = (0 : Int)
      · obtain ⟨cq139, kq139, q139a, q139b, q139c⟩ := isOf hZ e134 E132x
        obtain ⟨_, _, ⟨T139, L139, k139, n139⟩, -, X139, ⟨Lc139, hQ139, l139, y139, z139⟩, st139⟩ := X134.virtualBack hx (y := (⟨"com/example/mass_cluster/masscluster/GzipMembers$Place", "isInMember", "()Z"⟩ : MethodName)) (z := (⟨"com/example/mass_cluster/masscluster/GzipMembers$Place", "isInMember", "()Z"⟩ : MethodName)) hown (mvT hZ (hw _ (List.mem_of_getElem? (i := 24) rfl))) (mvT hZ (hw _ (List.mem_of_getElem? (i := 25) rfl))) (notFace_of_selects (args := #[]) (mvT hZ (hw _ (List.mem_of_getElem? (i := 27) rfl)))) (mvT hZ (hw _ (List.mem_of_getElem? (i := 27) rfl))) (mvT hZ (hw _ (List.mem_of_getElem? (i := 26) rfl))) (by decide) (backOf (W := 1) (rm5 l Z a0 hw [] b131 (q2 &&& (9223372036854775807 : Int64)) T132.heap n0 Z132 F132_inMember) hZ (hw _ (List.mem_of_getElem? (i := 28) rfl)) (hw _ (List.mem_of_getElem? (i := 3) rfl)) (by decide) (by decide)) q139a q139c (g := (mkF m 80 #[.val (.long q1), .second, .val (.long q2), .second, .val (.int p3), .val (.int (p3 &&& (3 : Int32))), .val (.long (q2 &&& (9223372036854775807 : Int64))), .second, .val (.ref b131), .val (.int (own_v4 (q2 &&& (9223372036854775807 : Int64)))), .val (.int (0 : Int32)), .unset, .unset] [(.ref b131), (.int (own_v4 (q2 &&& (9223372036854775807 : Int64))))])) rfl (by rw [hml]; rfl) (Steps.refl _) (argsL := []) (rest := [(.int (own_v4 (q2 &&& (9223372036854775807 : Int64))))]) (lenOf pd_0_1 rfl) rfl (by show 2 * 0 + _ ≤ _; exact Nat.le_of_eq rfl) (hb hby at_80) (fun _ _ => ⟨rfl, e134, (by decide : 1 + 0 ≤ _), (by decide : 2 + 0 ≤ _)⟩)
        dsimp only [Pt.U, Pt.locs, Pt.cells, Pt.slots] at X139 l139 y139 z139 st139 hQ139
        subst l139 y139 z139
        obtain ⟨hv139, N139q, e139⟩ := hQ139
        have r139 : (own_v5 (q2 &&& (9223372036854775807 : Int64))) = (1 : Int32) := by unfold own_v5; exact if_neg (by omega)
        rw [r139] at hv139
        subst hv139
        have N139 := Fr.app N134 N139q
        have pre140 : ∀ t, Steps p.tables e below (T139.setTop (mkF m 90 #[.val (.long q1), .second, .val (.long q2), .second, .val (.int p3), .val (.int (p3 &&& (3 : Int32))), .val (.long (q2 &&& (9223372036854775807 : Int64))), .second, .val (.ref b131), .val (.int (own_v4 (q2 &&& (9223372036854775807 : Int64)))), .val (.int (0 : Int32)), .unset, .unset] [(.int (lcmpW (q2 &&& (9223372036854775807 : Int64)) (0 : Int64))), (.int (own_v4 (q2 &&& (9223372036854775807 : Int64))))])) t → Steps p.tables e below (s₁.setTop (entryFrame m #[(.long q1), (.long q2), (.int p3)] maxLocals)) t := fun t9 k9 => pre137 t9 (by
            show Steps p.tables e below (T134.setTop (mkF m 66 #[.val (.long q1), .second, .val (.long q2), .second, .val (.int p3), .val (.int (p3 &&& (3 : Int32))), .val (.long (q2 &&& (9223372036854775807 : Int64))), .second, .val (.ref b131), .val (.int (own_v4 (q2 &&& (9223372036854775807 : Int64)))), .unset, .unset, .unset] [(.int (lcmpW (q2 &&& (9223372036854775807 : Int64)) (0 : Int64)))])) _
            refine XS.ifYes X134.here hx rfl (pc0 := 66) (pc' := 73) rfl (hb hby at_66) rfl (own_Leq_t (a := (q2 &&& (9223372036854775807 : Int64)).toInt) (b := (0 : Int)) rfl (by decide) b138) (by decide) (by decide) ?_
            show Steps p.tables e below (T134.setTop (mkF m 73 #[.val (.long q1), .second, .val (.long q2), .second, .val (.int p3), .val (.int (p3 &&& (3 : Int32))), .val (.long (q2 &&& (9223372036854775807 : Int64))), .second, .val (.ref b131), .val (.int (own_v4 (q2 &&& (9223372036854775807 : Int64)))), .unset, .unset, .unset] [])) _
            refine XS.iconst X134.here hx rfl (hb hby at_73) ?_
            show Steps p.tables e below (T134.setTop (mkF m 74 #[.val (.long q1), .second, .val (.long q2), .second, .val (.int p3), .val (.int (p3 &&& (3 : Int32))), .val (.long (q2 &&& (9223372036854775807 : Int64))), .second, .val (.ref b131), .val (.int (own_v4 (q2 &&& (9223372036854775807 : Int64)))), .unset, .unset, .unset] [(.int (0 : Int32))])) _
            refine XS.istore X134.here hx rfl (hb hby at_74) rfl (l' := #[.val (.long q1), .second, .val (.long q2), .second, .val (.int p3), .val (.int (p3 &&& (3 : Int32))), .val (.long (q2 &&& (9223372036854775807 : Int64))), .second, .val (.ref b131), .val (.int (own_v4 (q2 &&& (9223372036854775807 : Int64)))), .val (.int (0 : Int32)), .unset, .unset]) rfl ?_
            show Steps p.tables e below (T134.setTop (mkF m 76 #[.val (.long q1), .second, .val (.long q2), .second, .val (.int p3), .val (.int (p3 &&& (3 : Int32))), .val (.long (q2 &&& (9223372036854775807 : Int64))), .second, .val (.ref b131), .val (.int (own_v4 (q2 &&& (9223372036854775807 : Int64)))), .val (.int (0 : Int32)), .unset, .unset] [])) _
            refine XS.iload X134.here hx rfl (hb hby at_76) rfl ?_
            show Steps p.tables e below (T134.setTop (mkF m 78 #[.val (.long q1), .second, .val (.long q2), .second, .val (.int p3), .val (.int (p3 &&& (3 : Int32))), .val (.long (q2 &&& (9223372036854775807 : Int64))), .second, .val (.ref b131), .val (.int (own_v4 (q2 &&& (9223372036854775807 : Int64)))), .val (.int (0 : Int32)), .unset, .unset] [(.int (own_v4 (q2 &&& (9223372036854775807 : Int64))))])) _
            refine XS.aload X134.here hx rfl (hb hby at_78) rfl rfl ?_
            show Steps p.tables e below (T134.setTop (mkF m 80 #[.val (.long q1), .second, .val (.long q2), .second, .val (.int p3), .val (.int (p3 &&& (3 : Int32))), .val (.long (q2 &&& (9223372036854775807 : Int64))), .second, .val (.ref b131), .val (.int (own_v4 (q2 &&& (9223372036854775807 : Int64)))), .val (.int (0 : Int32)), .unset, .unset] [(.ref b131), (.int (own_v4 (q2 &&& (9223372036854775807 : Int64))))])) _
            refine st139.trans ?_
            show Steps p.tables e below (T139.setTop (mkF m 83 #[.val (.long q1), .second, .val (.long q2), .second, .val (.int p3), .val (.int (p3 &&& (3 : Int32))), .val (.long (q2 &&& (9223372036854775807 : Int64))), .second, .val (.ref b131), .val (.int (own_v4 (q2 &&& (9223372036854775807 : Int64)))), .val (.int (0 : Int32)), .unset, .unset] [(.int (1 : Int32)), (.int (own_v4 (q2 &&& (9223372036854775807 : Int64))))])) _
            refine XS.ifNo X139.here hx rfl (hb hby at_83) rfl ((if0 _ _).trans (own_eq_f (a := (1 : Int)) (b := (0 : Int)) (by decide) (by decide) (by decide))) ?_
            show Steps p.tables e below (T139.setTop (mkF m 86 #[.val (.long q1), .second, .val (.long q2), .second, .val (.int p3), .val (.int (p3 &&& (3 : Int32))), .val (.long (q2 &&& (9223372036854775807 : Int64))), .second, .val (.ref b131), .val (.int (own_v4 (q2 &&& (9223372036854775807 : Int64)))), .val (.int (0 : Int32)), .unset, .unset] [(.int (own_v4 (q2 &&& (9223372036854775807 : Int64))))])) _
            refine XS.lload X139.here hx rfl (hb hby at_86) rfl ?_
            show Steps p.tables e below (T139.setTop (mkF m 88 #[.val (.long q1), .second, .val (.long q2), .second, .val (.int p3), .val (.int (p3 &&& (3 : Int32))), .val (.long (q2 &&& (9223372036854775807 : Int64))), .second, .val (.ref b131), .val (.int (own_v4 (q2 &&& (9223372036854775807 : Int64)))), .val (.int (0 : Int32)), .unset, .unset] [(.long (q2 &&& (9223372036854775807 : Int64))), (.int (own_v4 (q2 &&& (9223372036854775807 : Int64))))])) _
            refine XS.lconst X139.here hx rfl (hb hby at_88) ?_
            show Steps p.tables e below (T139.setTop (mkF m 89 #[.val (.long q1), .second, .val (.long q2), .second, .val (.int p3), .val (.int (p3 &&& (3 : Int32))), .val (.long (q2 &&& (9223372036854775807 : Int64))), .second, .val (.ref b131), .val (.int (own_v4 (q2 &&& (9223372036854775807 : Int64)))), .val (.int (0 : Int32)), .unset, .unset] [(.long (0 : Int64)), (.long (q2 &&& (9223372036854775807 : Int64))), (.int (own_v4 (q2 &&& (9223372036854775807 : Int64))))])) _
            refine XS.lcmp X139.here hx rfl (hb hby at_89) rfl ?_
            exact k9)
        have b141 : (q2 &&& (9223372036854775807 : Int64)).toInt = (0 : Int) := by omega
        have pre142 : ∀ t, Steps p.tables e below (T139.setTop (mkF m 98 #[.val (.long q1), .second, .val (.long q2), .second, .val (.int p3), .val (.int (p3 &&& (3 : Int32))), .val (.long (q2 &&& (9223372036854775807 : Int64))), .second, .val (.ref b131), .val (.int (own_v4 (q2 &&& (9223372036854775807 : Int64)))), .val (.int (0 : Int32)), .unset, .unset] [(.int (0 : Int32)), (.int (own_v4 (q2 &&& (9223372036854775807 : Int64))))])) t → Steps p.tables e below (s₁.setTop (entryFrame m #[(.long q1), (.long q2), (.int p3)] maxLocals)) t := fun t9 k9 => pre140 t9 (by
            show Steps p.tables e below (T139.setTop (mkF m 90 #[.val (.long q1), .second, .val (.long q2), .second, .val (.int p3), .val (.int (p3 &&& (3 : Int32))), .val (.long (q2 &&& (9223372036854775807 : Int64))), .second, .val (.ref b131), .val (.int (own_v4 (q2 &&& (9223372036854775807 : Int64)))), .val (.int (0 : Int32)), .unset, .unset] [(.int (lcmpW (q2 &&& (9223372036854775807 : Int64)) (0 : Int64))), (.int (own_v4 (q2 &&& (9223372036854775807 : Int64))))])) _
            refine XS.ifYes X139.here hx rfl (pc0 := 90) (pc' := 97) rfl (hb hby at_90) rfl (own_Leq_t (a := (q2 &&& (9223372036854775807 : Int64)).toInt) (b := (0 : Int)) rfl (by decide) b141) (by decide) (by decide) ?_
            show Steps p.tables e below (T139.setTop (mkF m 97 #[.val (.long q1), .second, .val (.long q2), .second, .val (.int p3), .val (.int (p3 &&& (3 : Int32))), .val (.long (q2 &&& (9223372036854775807 : Int64))), .second, .val (.ref b131), .val (.int (own_v4 (q2 &&& (9223372036854775807 : Int64)))), .val (.int (0 : Int32)), .unset, .unset] [(.int (own_v4 (q2 &&& (9223372036854775807 : Int64))))])) _
            refine XS.iconst X139.here hx rfl (hb hby at_97) ?_
            exact k9)
        have b143 : (own_v4 (q2 &&& (9223372036854775807 : Int64))).toInt = (0 : Int) := by have := own_v4_01 (q2 &&& (9223372036854775807 : Int64)); omega
        obtain ⟨_, _, ⟨T144, L144, k144, n144⟩, -, X144, ⟨Lc144, hQ144, l144, y144, z144⟩, st144⟩ := Jvm.LawKit.callS X139 hx (y := (⟨"com/example/mass_cluster/masscluster/GzipMembers$Place", "inFile", "(J)Lcom/example/mass_cluster/masscluster/GzipMembers$Place;"⟩ : MethodName)) hown (mvT hZ (hw _ (List.mem_of_getElem? (i := 30) rfl))) (mvT hZ (hw _ (List.mem_of_getElem? (i := 31) rfl))) (mvT hZ (hw _ (List.mem_of_getElem? (i := 3) rfl))) (mvT hZ (hw _ (List.mem_of_getElem? (i := 32) rfl))) (by decide) (backOf (W := 0) (rm6 l Z a0 hw [] q1 T132.heap n0 Z132 ) hZ (hw _ (List.mem_of_getElem? (i := 32) rfl)) (hw _ (List.mem_of_getElem? (i := 3) rfl)) (by decide) (by decide)) (g := (mkF m 109 #[.val (.long q1), .second, .val (.long q2), .second, .val (.int p3), .val (.int (p3 &&& (3 : Int32))), .val (.long (q2 &&& (9223372036854775807 : Int64))), .second, .val (.ref b131), .val (.int (own_v4 (q2 &&& (9223372036854775807 : Int64)))), .val (.int (0 : Int32)), .val (.int (1 : Int32)), .unset] [(.long q1)])) rfl (by rw [hml]; rfl) (argsL := [(.long q1)]) (rest := []) (lenOf pd_0_2 rfl) rfl (by show 2 * 0 + _ ≤ _; exact Nat.le_of_eq rfl) (hb hby at_109) (fun _ _ => ⟨rfl, e139, (by decide : 1 + 1 ≤ _), (by decide : 2 + 2 ≤ _)⟩)
        dsimp only [Pt.U, Pt.locs, Pt.cells, Pt.slots] at X144 l144 y144 z144 st144 hQ144
        subst l144 y144 z144
        obtain ⟨r144, hv144, N144q, K144, sz144, E144x, F144_i⟩ := hQ144
        subst hv144
        have N144 := Fr.app N139 N144q
        have Ek145 := E132x.keep K144
        have Fk146 := F132_offset.keep K144 nin0
        have Fk147 := F132_inMember.keep K144 nin0
        have KK144 := KK132.trans K144 all0
        have Z144 : n0 ≤ T144.heap.size := Nat.le_trans Z132 K144.1
        obtain ⟨cq148, kq148, q148a, q148b, q148c⟩ := isOf hZ rfl E144x
        obtain ⟨_, _, ⟨T148, L148, k148, n148⟩, -, X148, ⟨Lc148, hQ148, l148, y148, z148⟩, st148⟩ := X144.virtualBack hx (y := (⟨"com/example/mass_cluster/masscluster/GzipMembers$Place", "isPastMemberStart", "()Z"⟩ : MethodName)) (z := (⟨"com/example/mass_cluster/masscluster/GzipMembers$Place", "isPastMemberStart", "()Z"⟩ : MethodName)) hown (mvT hZ (hw _ (List.mem_of_getElem? (i := 19) rfl))) (mvT hZ (hw _ (List.mem_of_getElem? (i := 20) rfl))) (notFace_of_selects (args := #[]) (mvT hZ (hw _ (List.mem_of_getElem? (i := 22) rfl)))) (mvT hZ (hw _ (List.mem_of_getElem? (i := 22) rfl))) (mvT hZ (hw _ (List.mem_of_getElem? (i := 21) rfl))) (by decide) (backOf (W := 0) (rm4 l Z a0 hw [] r144 (-1 : Int64) T144.heap n0 Z144 F144_i) hZ (hw _ (List.mem_of_getElem? (i := 23) rfl)) (hw _ (List.mem_of_getElem? (i := 3) rfl)) (by decide) (by decide)) q148a q148c (g := (mkF m 112 #[.val (.long q1), .second, .val (.long q2), .second, .val (.int p3), .val (.int (p3 &&& (3 : Int32))), .val (.long (q2 &&& (9223372036854775807 : Int64))), .second, .val (.ref b131), .val (.int (own_v4 (q2 &&& (9223372036854775807 : Int64)))), .val (.int (0 : Int32)), .val (.int (1 : Int32)), .unset] [(.ref r144)])) rfl (by rw [hml]; rfl) (Steps.refl _) (argsL := []) (rest := []) (lenOf pd_0_1 rfl) rfl (by show 2 * 0 + _ ≤ _; exact Nat.le_of_eq rfl) (hb hby at_112) (fun _ _ => ⟨rfl, rfl, (by decide : 2 + 0 ≤ _), (by decide : 4 + 0 ≤ _)⟩)
        dsimp only [Pt.U, Pt.locs, Pt.cells, Pt.slots] at X148 l148 y148 z148 st148 hQ148
        subst l148 y148 z148
        obtain ⟨hv148, N148q, e148⟩ := hQ148
        have r148 : (own_v4 (-1 : Int64)) = (0 : Int32) := by decide
        rw [r148] at hv148
        subst hv148
        have N148 := Fr.app N144 N148q
        have pre149 : ∀ t, Steps p.tables e below (T148.setTop (mkF m 129 #[.val (.long q1), .second, .val (.long q2), .second, .val (.int p3), .val (.int (p3 &&& (3 : Int32))), .val (.long (q2 &&& (9223372036854775807 : Int64))), .second, .val (.ref b131), .val (.int (own_v4 (q2 &&& (9223372036854775807 : Int64)))), .val (.int (0 : Int32)), .val (.int (1 : Int32)), .val (.int (1 : Int32))] [(.int (0 : Int32)), (.int (own_v4 (q2 &&& (9223372036854775807 : Int64))))])) t → Steps p.tables e below (s₁.setTop (entryFrame m #[(.long q1), (.long q2), (.int p3)] maxLocals)) t := fun t9 k9 => pre142 t9 (by
            show Steps p.tables e below (T139.setTop (mkF m 98 #[.val (.long q1), .second, .val (.long q2), .second, .val (.int p3), .val (.int (p3 &&& (3 : Int32))), .val (.long (q2 &&& (9223372036854775807 : Int64))), .second, .val (.ref b131), .val (.int (own_v4 (q2 &&& (9223372036854775807 : Int64)))), .val (.int (0 : Int32)), .unset, .unset] [(.int (0 : Int32)), (.int (own_v4 (q2 &&& (9223372036854775807 : Int64))))])) _
            refine XS.icmpNo X139.here hx rfl (hb hby at_98) rfl (own_ne_f (a := (own_v4 (q2 &&& (9223372036854775807 : Int64))).toInt) (b := (0 : Int)) rfl (by decide) b143) ?_
            show Steps p.tables e below (T139.setTop (mkF m 101 #[.val (.long q1), .second, .val (.long q2), .second, .val (.int p3), .val (.int (p3 &&& (3 : Int32))), .val (.long (q2 &&& (9223372036854775807 : Int64))), .second, .val (.ref b131), .val (.int (own_v4 (q2 &&& (9223372036854775807 : Int64)))), .val (.int (0 : Int32)), .unset, .unset] [])) _
            refine XS.iconst X139.here hx rfl (hb hby at_101) ?_
            show Steps p.tables e below (T139.setTop (mkF m 102 #[.val (.long q1), .second, .val (.long q2), .second, .val (.int p3), .val (.int (p3 &&& (3 : Int32))), .val (.long (q2 &&& (9223372036854775807 : Int64))), .second, .val (.ref b131), .val (.int (own_v4 (q2 &&& (9223372036854775807 : Int64)))), .val (.int (0 : Int32)), .unset, .unset] [(.int (1 : Int32))])) _
            refine XS.goto X139.here hx rfl (pc0 := 102) (pc' := 106) rfl (hb hby at_102) (by decide) (by decide) ?_
            show Steps p.tables e below (T139.setTop (mkF m 106 #[.val (.long q1), .second, .val (.long q2), .second, .val (.int p3), .val (.int (p3 &&& (3 : Int32))), .val (.long (q2 &&& (9223372036854775807 : Int64))), .second, .val (.ref b131), .val (.int (own_v4 (q2 &&& (9223372036854775807 : Int64)))), .val (.int (0 : Int32)), .unset, .unset] [(.int (1 : Int32))])) _
            refine XS.istore X139.here hx rfl (hb hby at_106) rfl (l' := #[.val (.long q1), .second, .val (.long q2), .second, .val (.int p3), .val (.int (p3 &&& (3 : Int32))), .val (.long (q2 &&& (9223372036854775807 : Int64))), .second, .val (.ref b131), .val (.int (own_v4 (q2 &&& (9223372036854775807 : Int64)))), .val (.int (0 : Int32)), .val (.int (1 : Int32)), .unset]) rfl ?_
            show Steps p.tables e below (T139.setTop (mkF m 108 #[.val (.long q1), .second, .val (.long q2), .second, .val (.int p3), .val (.int (p3 &&& (3 : Int32))), .val (.long (q2 &&& (9223372036854775807 : Int64))), .second, .val (.ref b131), .val (.int (own_v4 (q2 &&& (9223372036854775807 : Int64)))), .val (.int (0 : Int32)), .val (.int (1 : Int32)), .unset] [])) _
            refine XS.lloadN X139.here hx rfl (hb hby at_108) rfl ?_
            show Steps p.tables e below (T139.setTop (mkF m 109 #[.val (.long q1), .second, .val (.long q2), .second, .val (.int p3), .val (.int (p3 &&& (3 : Int32))), .val (.long (q2 &&& (9223372036854775807 : Int64))), .second, .val (.ref b131), .val (.int (own_v4 (q2 &&& (9223372036854775807 : Int64)))), .val (.int (0 : Int32)), .val (.int (1 : Int32)), .unset] [(.long q1)])) _
            refine st144 _ ?_
            show Steps p.tables e below (T144.setTop (mkF m 112 #[.val (.long q1), .second, .val (.long q2), .second, .val (.int p3), .val (.int (p3 &&& (3 : Int32))), .val (.long (q2 &&& (9223372036854775807 : Int64))), .second, .val (.ref b131), .val (.int (own_v4 (q2 &&& (9223372036854775807 : Int64)))), .val (.int (0 : Int32)), .val (.int (1 : Int32)), .unset] [(.ref r144)])) _
            refine st148.trans ?_
            show Steps p.tables e below (T148.setTop (mkF m 115 #[.val (.long q1), .second, .val (.long q2), .second, .val (.int p3), .val (.int (p3 &&& (3 : Int32))), .val (.long (q2 &&& (9223372036854775807 : Int64))), .second, .val (.ref b131), .val (.int (own_v4 (q2 &&& (9223372036854775807 : Int64)))), .val (.int (0 : Int32)), .val (.int (1 : Int32)), .unset] [(.int (0 : Int32))])) _
            refine XS.ifNo X148.here hx rfl (hb hby at_115) rfl ((if0 _ _).trans (own_ne_f (a := (0 : Int)) (b := (0 : Int)) (by decide) (by decide) (by decide))) ?_
            show Steps p.tables e below (T148.setTop (mkF m 118 #[.val (.long q1), .second, .val (.long q2), .second, .val (.int p3), .val (.int (p3 &&& (3 : Int32))), .val (.long (q2 &&& (9223372036854775807 : Int64))), .second, .val (.ref b131), .val (.int (own_v4 (q2 &&& (9223372036854775807 : Int64)))), .val (.int (0 : Int32)), .val (.int (1 : Int32)), .unset] [])) _
            refine XS.iconst X148.here hx rfl (hb hby at_118) ?_
            show Steps p.tables e below (T148.setTop (mkF m 119 #[.val (.long q1), .second, .val (.long q2), .second, .val (.int p3), .val (.int (p3 &&& (3 : Int32))), .val (.long (q2 &&& (9223372036854775807 : Int64))), .second, .val (.ref b131), .val (.int (own_v4 (q2 &&& (9223372036854775807 : Int64)))), .val (.int (0 : Int32)), .val (.int (1 : Int32)), .unset] [(.int (1 : Int32))])) _
            refine XS.goto X148.here hx rfl (pc0 := 119) (pc' := 123) rfl (hb hby at_119) (by decide) (by decide) ?_
            show Steps p.tables e below (T148.setTop (mkF m 123 #[.val (.long q1), .second, .val (.long q2), .second, .val (.int p3), .val (.int (p3 &&& (3 : Int32))), .val (.long (q2 &&& (9223372036854775807 : Int64))), .second, .val (.ref b131), .val (.int (own_v4 (q2 &&& (9223372036854775807 : Int64)))), .val (.int (0 : Int32)), .val (.int (1 : Int32)), .unset] [(.int (1 : Int32))])) _
            refine XS.istore X148.here hx rfl (hb hby at_123) rfl (l' := #[.val (.long q1), .second, .val (.long q2), .second, .val (.int p3), .val (.int (p3 &&& (3 : Int32))), .val (.long (q2 &&& (9223372036854775807 : Int64))), .second, .val (.ref b131), .val (.int (own_v4 (q2 &&& (9223372036854775807 : Int64)))), .val (.int (0 : Int32)), .val (.int (1 : Int32)), .val (.int (1 : Int32))]) rfl ?_
            show Steps p.tables e below (T148.setTop (mkF m 125 #[.val (.long q1), .second, .val (.long q2), .second, .val (.int p3), .val (.int (p3 &&& (3 : Int32))), .val (.long (q2 &&& (9223372036854775807 : Int64))), .second, .val (.ref b131), .val (.int (own_v4 (q2 &&& (9223372036854775807 : Int64)))), .val (.int (0 : Int32)), .val (.int (1 : Int32)), .val (.int (1 : Int32))] [])) _
            refine XS.iload X148.here hx rfl (hb hby at_125) rfl ?_
            show Steps p.tables e below (T148.setTop (mkF m 127 #[.val (.long q1), .second, .val (.long q2), .second, .val (.int p3), .val (.int (p3 &&& (3 : Int32))), .val (.long (q2 &&& (9223372036854775807 : Int64))), .second, .val (.ref b131), .val (.int (own_v4 (q2 &&& (9223372036854775807 : Int64)))), .val (.int (0 : Int32)), .val (.int (1 : Int32)), .val (.int (1 : Int32))] [(.int (own_v4 (q2 &&& (9223372036854775807 : Int64))))])) _
            refine XS.iload X148.here hx rfl (hb hby at_127) rfl ?_
            exact k9)
        have b150 : (own_v4 (q2 &&& (9223372036854775807 : Int64))).toInt = (0 : Int) := by have := own_v4_01 (q2 &&& (9223372036854775807 : Int64)); omega
        have pre151 : ∀ t, Steps p.tables e below (T148.setTop (mkF m 147 #[.val (.long q1), .second, .val (.long q2), .second, .val (.int p3), .val (.int (p3 &&& (3 : Int32))), .val (.long (q2 &&& (9223372036854775807 : Int64))), .second, .val (.ref b131), .val (.int (own_v4 (q2 &&& (9223372036854775807 : Int64)))), .val (.int (0 : Int32)), .val (.int (1 : Int32)), .val (.int (1 : Int32))] [(.int (1 : Int32))])) t → Steps p.tables e below (s₁.setTop (entryFrame m #[(.long q1), (.long q2), (.int p3)] maxLocals)) t := fun t9 k9 => pre149 t9 (by
            show Steps p.tables e below (T148.setTop (mkF m 129 #[.val (.long q1), .second, .val (.long q2), .second, .val (.int p3), .val (.int (p3 &&& (3 : Int32))), .val (.long (q2 &&& (9223372036854775807 : Int64))), .second, .val (.ref b131), .val (.int (own_v4 (q2 &&& (9223372036854775807 : Int64)))), .val (.int (0 : Int32)), .val (.int (1 : Int32)), .val (.int (1 : Int32))] [(.int (0 : Int32)), (.int (own_v4 (q2 &&& (9223372036854775807 : Int64))))])) _
            refine XS.icmpNo X148.here hx rfl (hb hby at_129) rfl (own_ne_f (a := (own_v4 (q2 &&& (9223372036854775807 : Int64))).toInt) (b := (0 : Int)) rfl (by decide) b150) ?_
            show Steps p.tables e below (T148.setTop (mkF m 132 #[.val (.long q1), .second, .val (.long q2), .second, .val (.int p3), .val (.int (p3 &&& (3 : Int32))), .val (.long (q2 &&& (9223372036854775807 : Int64))), .second, .val (.ref b131), .val (.int (own_v4 (q2 &&& (9223372036854775807 : Int64)))), .val (.int (0 : Int32)), .val (.int (1 : Int32)), .val (.int (1 : Int32))] [])) _
            refine XS.iload X148.here hx rfl (hb hby at_132) rfl ?_
            show Steps p.tables e below (T148.setTop (mkF m 134 #[.val (.long q1), .second, .val (.long q2), .second, .val (.int p3), .val (.int (p3 &&& (3 : Int32))), .val (.long (q2 &&& (9223372036854775807 : Int64))), .second, .val (.ref b131), .val (.int (own_v4 (q2 &&& (9223372036854775807 : Int64)))), .val (.int (0 : Int32)), .val (.int (1 : Int32)), .val (.int (1 : Int32))] [(.int (1 : Int32))])) _
            refine XS.ifNo X148.here hx rfl (hb hby at_134) rfl ((if0 _ _).trans (own_eq_f (a := (1 : Int)) (b := (0 : Int)) (by decide) (by decide) (by decide))) ?_
            show Steps p.tables e below (T148.setTop (mkF m 137 #[.val (.long q1), .second, .val (.long q2), .second, .val (.int p3), .val (.int (p3 &&& (3 : Int32))), .val (.long (q2 &&& (9223372036854775807 : Int64))), .second, .val (.ref b131), .val (.int (own_v4 (q2 &&& (9223372036854775807 : Int64)))), .val (.int (0 : Int32)), .val (.int (1 : Int32)), .val (.int (1 : Int32))] [])) _
            refine XS.iload X148.here hx rfl (hb hby at_137) rfl ?_
            show Steps p.tables e below (T148.setTop (mkF m 139 #[.val (.long q1), .second, .val (.long q2), .second, .val (.int p3), .val (.int (p3 &&& (3 : Int32))), .val (.long (q2 &&& (9223372036854775807 : Int64))), .second, .val (.ref b131), .val (.int (own_v4 (q2 &&& (9223372036854775807 : Int64)))), .val (.int (0 : Int32)), .val (.int (1 : Int32)), .val (.int (1 : Int32))] [(.int (1 : Int32))])) _
            refine XS.ifNo X148.here hx rfl (hb hby at_139) rfl ((if0 _ _).trans (own_eq_f (a := (1 : Int)) (b := (0 : Int)) (by decide) (by decide) (by decide))) ?_
            show Steps p.tables e below (T148.setTop (mkF m 142 #[.val (.long q1), .second, .val (.long q2), .second, .val (.int p3), .val (.int (p3 &&& (3 : Int32))), .val (.long (q2 &&& (9223372036854775807 : Int64))), .second, .val (.ref b131), .val (.int (own_v4 (q2 &&& (9223372036854775807 : Int64)))), .val (.int (0 : Int32)), .val (.int (1 : Int32)), .val (.int (1 : Int32))] [])) _
            refine XS.iconst X148.here hx rfl (hb hby at_142) ?_
            show Steps p.tables e below (T148.setTop (mkF m 143 #[.val (.long q1), .second, .val (.long q2), .second, .val (.int p3), .val (.int (p3 &&& (3 : Int32))), .val (.long (q2 &&& (9223372036854775807 : Int64))), .second, .val (.ref b131), .val (.int (own_v4 (q2 &&& (9223372036854775807 : Int64)))), .val (.int (0 : Int32)), .val (.int (1 : Int32)), .val (.int (1 : Int32))] [(.int (1 : Int32))])) _
            refine XS.goto X148.here hx rfl (pc0 := 143) (pc' := 147) rfl (hb hby at_143) (by decide) (by decide) ?_
            exact k9)
        obtain ⟨fs, hr, hrun, hended, hW, hsame⟩ := X148.leave (v := some (.int (1 : Int32))) (fun h => by rw [Bd.returns] at h; cases h)
        refine ⟨_, _, pre151 _ ?_, hrun, hended, _, _, rfl, ?_, ⟨_, rfl⟩, hW, hsame.mono (by decide) (by decide)⟩
        · show Steps p.tables e below (T148.setTop (mkF m 147 #[.val (.long q1), .second, .val (.long q2), .second, .val (.int p3), .val (.int (p3 &&& (3 : Int32))), .val (.long (q2 &&& (9223372036854775807 : Int64))), .second, .val (.ref b131), .val (.int (own_v4 (q2 &&& (9223372036854775807 : Int64)))), .val (.int (0 : Int32)), .val (.int (1 : Int32)), .val (.int (1 : Int32))] [(.int (1 : Int32))])) _
          exact retN X148 hx (t := .boolean) Bd.returns (by simp) (hb hby at_147) hr
        · show Q0 Z q1 q2 p3 h0 n0 _ T148.heap _
          rw [e148]
          exact ⟨rfl, N148⟩
      · obtain ⟨cq152, kq152, q152a, q152b, q152c⟩ := isOf hZ e134 E132x
        obtain ⟨_, _, ⟨T152, L152, k152, n152⟩, -, X152, ⟨Lc152, hQ152, l152, y152, z152⟩, st152⟩ := X134.virtualBack hx (y := (⟨"com/example/mass_cluster/masscluster/GzipMembers$Place", "isInMember", "()Z"⟩ : MethodName)) (z := (⟨"com/example/mass_cluster/masscluster/GzipMembers$Place", "isInMember", "()Z"⟩ : MethodName)) hown (mvT hZ (hw _ (List.mem_of_getElem? (i := 24) rfl))) (mvT hZ (hw _ (List.mem_of_getElem? (i := 25) rfl))) (notFace_of_selects (args := #[]) (mvT hZ (hw _ (List.mem_of_getElem? (i := 27) rfl)))) (mvT hZ (hw _ (List.mem_of_getElem? (i := 27) rfl))) (mvT hZ (hw _ (List.mem_of_getElem? (i := 26) rfl))) (by decide) (backOf (W := 1) (rm5 l Z a0 hw [] b131 (q2 &&& (9223372036854775807 : Int64)) T132.heap n0 Z132 F132_inMember) hZ (hw _ (List.mem_of_getElem? (i := 28) rfl)) (hw _ (List.mem_of_getElem? (i := 3) rfl)) (by decide) (by decide)) q152a q152c (g := (mkF m 80 #[.val (.long q1), .second, .val (.long q2), .second, .val (.int p3), .val (.int (p3 &&& (3 : Int32))), .val (.long (q2 &&& (9223372036854775807 : Int64))), .second, .val (.ref b131), .val (.int (own_v4 (q2 &&& (9223372036854775807 : Int64)))), .val (.int (1 : Int32)), .unset, .unset] [(.ref b131), (.int (own_v4 (q2 &&& (9223372036854775807 : Int64))))])) rfl (by rw [hml]; rfl) (Steps.refl _) (argsL := []) (rest := [(.int (own_v4 (q2 &&& (9223372036854775807 : Int64))))]) (lenOf pd_0_1 rfl) rfl (by show 2 * 0 + _ ≤ _; exact Nat.le_of_eq rfl) (hb hby at_80) (fun _ _ => ⟨rfl, e134, (by decide : 1 + 0 ≤ _), (by decide : 2 + 0 ≤ _)⟩)
        dsimp only [Pt.U, Pt.locs, Pt.cells, Pt.slots] at X152 l152 y152 z152 st152 hQ152
        subst l152 y152 z152
        obtain ⟨hv152, N152q, e152⟩ := hQ152
        have r152 : (own_v5 (q2 &&& (9223372036854775807 : Int64))) = (1 : Int32) := by unfold own_v5; exact if_neg (by omega)
        rw [r152] at hv152
        subst hv152
        have N152 := Fr.app N134 N152q
        have pre153 : ∀ t, Steps p.tables e below (T152.setTop (mkF m 90 #[.val (.long q1), .second, .val (.long q2), .second, .val (.int p3), .val (.int (p3 &&& (3 : Int32))), .val (.long (q2 &&& (9223372036854775807 : Int64))), .second, .val (.ref b131), .val (.int (own_v4 (q2 &&& (9223372036854775807 : Int64)))), .val (.int (1 : Int32)), .unset, .unset] [(.int (lcmpW (q2 &&& (9223372036854775807 : Int64)) (0 : Int64))), (.int (own_v4 (q2 &&& (9223372036854775807 : Int64))))])) t → Steps p.tables e below (s₁.setTop (entryFrame m #[(.long q1), (.long q2), (.int p3)] maxLocals)) t := fun t9 k9 => pre137 t9 (by
            show Steps p.tables e below (T134.setTop (mkF m 66 #[.val (.long q1), .second, .val (.long q2), .second, .val (.int p3), .val (.int (p3 &&& (3 : Int32))), .val (.long (q2 &&& (9223372036854775807 : Int64))), .second, .val (.ref b131), .val (.int (own_v4 (q2 &&& (9223372036854775807 : Int64)))), .unset, .unset, .unset] [(.int (lcmpW (q2 &&& (9223372036854775807 : Int64)) (0 : Int64)))])) _
            refine XS.ifNo X134.here hx rfl (hb hby at_66) rfl (own_Leq_f (a := (q2 &&& (9223372036854775807 : Int64)).toInt) (b := (0 : Int)) rfl (by decide) b138) ?_
            show Steps p.tables e below (T134.setTop (mkF m 69 #[.val (.long q1), .second, .val (.long q2), .second, .val (.int p3), .val (.int (p3 &&& (3 : Int32))), .val (.long (q2 &&& (9223372036854775807 : Int64))), .second, .val (.ref b131), .val (.int (own_v4 (q2 &&& (9223372036854775807 : Int64)))), .unset, .unset, .unset] [])) _
            refine XS.iconst X134.here hx rfl (hb hby at_69) ?_
            show Steps p.tables e below (T134.setTop (mkF m 70 #[.val (.long q1), .second, .val (.long q2), .second, .val (.int p3), .val (.int (p3 &&& (3 : Int32))), .val (.long (q2 &&& (9223372036854775807 : Int64))), .second, .val (.ref b131), .val (.int (own_v4 (q2 &&& (9223372036854775807 : Int64)))), .unset, .unset, .unset] [(.int (1 : Int32))])) _
            refine XS.goto X134.here hx rfl (pc0 := 70) (pc' := 74) rfl (hb hby at_70) (by decide) (by decide) ?_
            show Steps p.tables e below (T134.setTop (mkF m 74 #[.val (.long q1), .second, .val (.long q2), .second, .val (.int p3), .val (.int (p3 &&& (3 : Int32))), .val (.long (q2 &&& (9223372036854775807 : Int64))), .second, .val (.ref b131), .val (.int (own_v4 (q2 &&& (9223372036854775807 : Int64)))), .unset, .unset, .unset] [(.int (1 : Int32))])) _
            refine XS.istore X134.here hx rfl (hb hby at_74) rfl (l' := #[.val (.long q1), .second, .val (.long q2), .second, .val (.int p3), .val (.int (p3 &&& (3 : Int32))), .val (.long (q2 &&& (9223372036854775807 : Int64))), .second, .val (.ref b131), .val (.int (own_v4 (q2 &&& (9223372036854775807 : Int64)))), .val (.int (1 : Int32)), .unset, .unset]) rfl ?_
            show Steps p.tables e below (T134.setTop (mkF m 76 #[.val (.long q1), .second, .val (.long q2), .second, .val (.int p3), .val (.int (p3 &&& (3 : Int32))), .val (.long (q2 &&& (9223372036854775807 : Int64))), .second, .val (.ref b131), .val (.int (own_v4 (q2 &&& (9223372036854775807 : Int64)))), .val (.int (1 : Int32)), .unset, .unset] [])) _
            refine XS.iload X134.here hx rfl (hb hby at_76) rfl ?_
            show Steps p.tables e below (T134.setTop (mkF m 78 #[.val (.long q1), .second, .val (.long q2), .second, .val (.int p3), .val (.int (p3 &&& (3 : Int32))), .val (.long (q2 &&& (9223372036854775807 : Int64))), .second, .val (.ref b131), .val (.int (own_v4 (q2 &&& (9223372036854775807 : Int64)))), .val (.int (1 : Int32)), .unset, .unset] [(.int (own_v4 (q2 &&& (9223372036854775807 : Int64))))])) _
            refine XS.aload X134.here hx rfl (hb hby at_78) rfl rfl ?_
            show Steps p.tables e below (T134.setTop (mkF m 80 #[.val (.long q1), .second, .val (.long q2), .second, .val (.int p3), .val (.int (p3 &&& (3 : Int32))), .val (.long (q2 &&& (9223372036854775807 : Int64))), .second, .val (.ref b131), .val (.int (own_v4 (q2 &&& (9223372036854775807 : Int64)))), .val (.int (1 : Int32)), .unset, .unset] [(.ref b131), (.int (own_v4 (q2 &&& (9223372036854775807 : Int64))))])) _
            refine st152.trans ?_
            show Steps p.tables e below (T152.setTop (mkF m 83 #[.val (.long q1), .second, .val (.long q2), .second, .val (.int p3), .val (.int (p3 &&& (3 : Int32))), .val (.long (q2 &&& (9223372036854775807 : Int64))), .second, .val (.ref b131), .val (.int (own_v4 (q2 &&& (9223372036854775807 : Int64)))), .val (.int (1 : Int32)), .unset, .unset] [(.int (1 : Int32)), (.int (own_v4 (q2 &&& (9223372036854775807 : Int64))))])) _
            refine XS.ifNo X152.here hx rfl (hb hby at_83) rfl ((if0 _ _).trans (own_eq_f (a := (1 : Int)) (b := (0 : Int)) (by decide) (by decide) (by decide))) ?_
            show Steps p.tables e below (T152.setTop (mkF m 86 #[.val (.long q1), .second, .val (.long q2), .second, .val (.int p3), .val (.int (p3 &&& (3 : Int32))), .val (.long (q2 &&& (9223372036854775807 : Int64))), .second, .val (.ref b131), .val (.int (own_v4 (q2 &&& (9223372036854775807 : Int64)))), .val (.int (1 : Int32)), .unset, .unset] [(.int (own_v4 (q2 &&& (9223372036854775807 : Int64))))])) _
            refine XS.lload X152.here hx rfl (hb hby at_86) rfl ?_
            show Steps p.tables e below (T152.setTop (mkF m 88 #[.val (.long q1), .second, .val (.long q2), .second, .val (.int p3), .val (.int (p3 &&& (3 : Int32))), .val (.long (q2 &&& (9223372036854775807 : Int64))), .second, .val (.ref b131), .val (.int (own_v4 (q2 &&& (9223372036854775807 : Int64)))), .val (.int (1 : Int32)), .unset, .unset] [(.long (q2 &&& (9223372036854775807 : Int64))), (.int (own_v4 (q2 &&& (9223372036854775807 : Int64))))])) _
            refine XS.lconst X152.here hx rfl (hb hby at_88) ?_
            show Steps p.tables e below (T152.setTop (mkF m 89 #[.val (.long q1), .second, .val (.long q2), .second, .val (.int p3), .val (.int (p3 &&& (3 : Int32))), .val (.long (q2 &&& (9223372036854775807 : Int64))), .second, .val (.ref b131), .val (.int (own_v4 (q2 &&& (9223372036854775807 : Int64)))), .val (.int (1 : Int32)), .unset, .unset] [(.long (0 : Int64)), (.long (q2 &&& (9223372036854775807 : Int64))), (.int (own_v4 (q2 &&& (9223372036854775807 : Int64))))])) _
            refine XS.lcmp X152.here hx rfl (hb hby at_89) rfl ?_
            exact k9)
        have b154 : ¬ ((q2 &&& (9223372036854775807 : Int64)).toInt = (0 : Int)) := by omega
        have pre155 : ∀ t, Steps p.tables e below (T152.setTop (mkF m 98 #[.val (.long q1), .second, .val (.long q2), .second, .val (.int p3), .val (.int (p3 &&& (3 : Int32))), .val (.long (q2 &&& (9223372036854775807 : Int64))), .second, .val (.ref b131), .val (.int (own_v4 (q2 &&& (9223372036854775807 : Int64)))), .val (.int (1 : Int32)), .unset, .unset] [(.int (1 : Int32)), (.int (own_v4 (q2 &&& (9223372036854775807 : Int64))))])) t → Steps p.tables e below (s₁.setTop (entryFrame m #[(.long q1), (.long q2), (.int p3)] maxLocals)) t := fun t9 k9 => pre153 t9 (by
            show Steps p.tables e below (T152.setTop (mkF m 90 #[.val (.long q1), .second, .val (.long q2), .second, .val (.int p3), .val (.int (p3 &&& (3 : Int32))), .val (.long (q2 &&& (9223372036854775807 : Int64))), .second, .val (.ref b131), .val (.int (own_v4 (q2 &&& (9223372036854775807 : Int64)))), .val (.int (1 : Int32)), .unset, .unset] [(.int (lcmpW (q2 &&& (9223372036854775807 : Int64)) (0 : Int64))), (.int (own_v4 (q2 &&& (9223372036854775807 : Int64))))])) _
            refine XS.ifNo X152.here hx rfl (hb hby at_90) rfl (own_Leq_f (a := (q2 &&& (9223372036854775807 : Int64)).toInt) (b := (0 : Int)) rfl (by decide) b154) ?_
            show Steps p.tables e below (T152.setTop (mkF m 93 #[.val (.long q1), .second, .val (.long q2), .second, .val (.int p3), .val (.int (p3 &&& (3 : Int32))), .val (.long (q2 &&& (9223372036854775807 : Int64))), .second, .val (.ref b131), .val (.int (own_v4 (q2 &&& (9223372036854775807 : Int64)))), .val (.int (1 : Int32)), .unset, .unset] [(.int (own_v4 (q2 &&& (9223372036854775807 : Int64))))])) _
            refine XS.iconst X152.here hx rfl (hb hby at_93) ?_
            show Steps p.tables e below (T152.setTop (mkF m 94 #[.val (.long q1), .second, .val (.long q2), .second, .val (.int p3), .val (.int (p3 &&& (3 : Int32))), .val (.long (q2 &&& (9223372036854775807 : Int64))), .second, .val (.ref b131), .val (.int (own_v4 (q2 &&& (9223372036854775807 : Int64)))), .val (.int (1 : Int32)), .unset, .unset] [(.int (1 : Int32)), (.int (own_v4 (q2 &&& (9223372036854775807 : Int64))))])) _
            refine XS.goto X152.here hx rfl (pc0 := 94) (pc' := 98) rfl (hb hby at_94) (by decide) (by decide) ?_
            exact k9)
        have b156 : (own_v4 (q2 &&& (9223372036854775807 : Int64))).toInt = (1 : Int) := by have := own_v4_01 (q2 &&& (9223372036854775807 : Int64)); omega
        obtain ⟨_, _, ⟨T157, L157, k157, n157⟩, -, X157, ⟨Lc157, hQ157, l157, y157, z157⟩, st157⟩ := Jvm.LawKit.callS X152 hx (y := (⟨"com/example/mass_cluster/masscluster/GzipMembers$Place", "inFile", "(J)Lcom/example/mass_cluster/masscluster/GzipMembers$Place;"⟩ : MethodName)) hown (mvT hZ (hw _ (List.mem_of_getElem? (i := 30) rfl))) (mvT hZ (hw _ (List.mem_of_getElem? (i := 31) rfl))) (mvT hZ (hw _ (List.mem_of_getElem? (i := 3) rfl))) (mvT hZ (hw _ (List.mem_of_getElem? (i := 32) rfl))) (by decide) (backOf (W := 0) (rm6 l Z a0 hw [] q1 T132.heap n0 Z132 ) hZ (hw _ (List.mem_of_getElem? (i := 32) rfl)) (hw _ (List.mem_of_getElem? (i := 3) rfl)) (by decide) (by decide)) (g := (mkF m 109 #[.val (.long q1), .second, .val (.long q2), .second, .val (.int p3), .val (.int (p3 &&& (3 : Int32))), .val (.long (q2 &&& (9223372036854775807 : Int64))), .second, .val (.ref b131), .val (.int (own_v4 (q2 &&& (9223372036854775807 : Int64)))), .val (.int (1 : Int32)), .val (.int (1 : Int32)), .unset] [(.long q1)])) rfl (by rw [hml]; rfl) (argsL := [(.long q1)]) (rest := []) (lenOf pd_0_2 rfl) rfl (by show 2 * 0 + _ ≤ _; exact Nat.le_of_eq rfl) (hb hby at_109) (fun _ _ => ⟨rfl, e152, (by decide : 1 + 1 ≤ _), (by decide : 2 + 2 ≤ _)⟩)
        dsimp only [Pt.U, Pt.locs, Pt.cells, Pt.slots] at X157 l157 y157 z157 st157 hQ157
        subst l157 y157 z157
        obtain ⟨r157, hv157, N157q, K157, sz157, E157x, F157_i⟩ := hQ157
        subst hv157
        have N157 := Fr.app N152 N157q
        have Ek158 := E132x.keep K157
        have Fk159 := F132_offset.keep K157 nin0
        have Fk160 := F132_inMember.keep K157 nin0
        have KK157 := KK132.trans K157 all0
        have Z157 : n0 ≤ T157.heap.size := Nat.le_trans Z132 K157.1
        obtain ⟨cq161, kq161, q161a, q161b, q161c⟩ := isOf hZ rfl E157x
        obtain ⟨_, _, ⟨T161, L161, k161, n161⟩, -, X161, ⟨Lc161, hQ161, l161, y161, z161⟩, st161⟩ := X157.virtualBack hx (y := (⟨"com/example/mass_cluster/masscluster/GzipMembers$Place", "isPastMemberStart", "()Z"⟩ : MethodName)) (z := (⟨"com/example/mass_cluster/masscluster/GzipMembers$Place", "isPastMemberStart", "()Z"⟩ : MethodName)) hown (mvT hZ (hw _ (List.mem_of_getElem? (i := 19) rfl))) (mvT hZ (hw _ (List.mem_of_getElem? (i := 20) rfl))) (notFace_of_selects (args := #[]) (mvT hZ (hw _ (List.mem_of_getElem? (i := 22) rfl)))) (mvT hZ (hw _ (List.mem_of_getElem? (i := 22) rfl))) (mvT hZ (hw _ (List.mem_of_getElem? (i := 21) rfl))) (by decide) (backOf (W := 0) (rm4 l Z a0 hw [] r157 (-1 : Int64) T157.heap n0 Z157 F157_i) hZ (hw _ (List.mem_of_getElem? (i := 23) rfl)) (hw _ (List.mem_of_getElem? (i := 3) rfl)) (by decide) (by decide)) q161a q161c (g := (mkF m 112 #[.val (.long q1), .second, .val (.long q2), .second, .val (.int p3), .val (.int (p3 &&& (3 : Int32))), .val (.long (q2 &&& (9223372036854775807 : Int64))), .second, .val (.ref b131), .val (.int (own_v4 (q2 &&& (9223372036854775807 : Int64)))), .val (.int (1 : Int32)), .val (.int (1 : Int32)), .unset] [(.ref r157)])) rfl (by rw [hml]; rfl) (Steps.refl _) (argsL := []) (rest := []) (lenOf pd_0_1 rfl) rfl (by show 2 * 0 + _ ≤ _; exact Nat.le_of_eq rfl) (hb hby at_112) (fun _ _ => ⟨rfl, rfl, (by decide : 2 + 0 ≤ _), (by decide : 4 + 0 ≤ _)⟩)
        dsimp only [Pt.U, Pt.locs, Pt.cells, Pt.slots] at X161 l161 y161 z161 st161 hQ161
        subst l161 y161 z161
        obtain ⟨hv161, N161q, e161⟩ := hQ161
        have r161 : (own_v4 (-1 : Int64)) = (0 : Int32) := by decide
        rw [r161] at hv161
        subst hv161
        have N161 := Fr.app N157 N161q
        have pre162 : ∀ t, Steps p.tables e below (T161.setTop (mkF m 129 #[.val (.long q1), .second, .val (.long q2), .second, .val (.int p3), .val (.int (p3 &&& (3 : Int32))), .val (.long (q2 &&& (9223372036854775807 : Int64))), .second, .val (.ref b131), .val (.int (own_v4 (q2 &&& (9223372036854775807 : Int64)))), .val (.int (1 : Int32)), .val (.int (1 : Int32)), .val (.int (1 : Int32))] [(.int (1 : Int32)), (.int (own_v4 (q2 &&& (9223372036854775807 : Int64))))])) t → Steps p.tables e below (s₁.setTop (entryFrame m #[(.long q1), (.long q2), (.int p3)] maxLocals)) t := fun t9 k9 => pre155 t9 (by
            show Steps p.tables e below (T152.setTop (mkF m 98 #[.val (.long q1), .second, .val (.long q2), .second, .val (.int p3), .val (.int (p3 &&& (3 : Int32))), .val (.long (q2 &&& (9223372036854775807 : Int64))), .second, .val (.ref b131), .val (.int (own_v4 (q2 &&& (9223372036854775807 : Int64)))), .val (.int (1 : Int32)), .unset, .unset] [(.int (1 : Int32)), (.int (own_v4 (q2 &&& (9223372036854775807 : Int64))))])) _
            refine XS.icmpNo X152.here hx rfl (hb hby at_98) rfl (own_ne_f (a := (own_v4 (q2 &&& (9223372036854775807 : Int64))).toInt) (b := (1 : Int)) rfl (by decide) b156) ?_
            show Steps p.tables e below (T152.setTop (mkF m 101 #[.val (.long q1), .second, .val (.long q2), .second, .val (.int p3), .val (.int (p3 &&& (3 : Int32))), .val (.long (q2 &&& (9223372036854775807 : Int64))), .second, .val (.ref b131), .val (.int (own_v4 (q2 &&& (9223372036854775807 : Int64)))), .val (.int (1 : Int32)), .unset, .unset] [])) _
            refine XS.iconst X152.here hx rfl (hb hby at_101) ?_
            show Steps p.tables e below (T152.setTop (mkF m 102 #[.val (.long q1), .second, .val (.long q2), .second, .val (.int p3), .val (.int (p3 &&& (3 : Int32))), .val (.long (q2 &&& (9223372036854775807 : Int64))), .second, .val (.ref b131), .val (.int (own_v4 (q2 &&& (9223372036854775807 : Int64)))), .val (.int (1 : Int32)), .unset, .unset] [(.int (1 : Int32))])) _
            refine XS.goto X152.here hx rfl (pc0 := 102) (pc' := 106) rfl (hb hby at_102) (by decide) (by decide) ?_
            show Steps p.tables e below (T152.setTop (mkF m 106 #[.val (.long q1), .second, .val (.long q2), .second, .val (.int p3), .val (.int (p3 &&& (3 : Int32))), .val (.long (q2 &&& (9223372036854775807 : Int64))), .second, .val (.ref b131), .val (.int (own_v4 (q2 &&& (9223372036854775807 : Int64)))), .val (.int (1 : Int32)), .unset, .unset] [(.int (1 : Int32))])) _
            refine XS.istore X152.here hx rfl (hb hby at_106) rfl (l' := #[.val (.long q1), .second, .val (.long q2), .second, .val (.int p3), .val (.int (p3 &&& (3 : Int32))), .val (.long (q2 &&& (9223372036854775807 : Int64))), .second, .val (.ref b131), .val (.int (own_v4 (q2 &&& (9223372036854775807 : Int64)))), .val (.int (1 : Int32)), .val (.int (1 : Int32)), .unset]) rfl ?_
            show Steps p.tables e below (T152.setTop (mkF m 108 #[.val (.long q1), .second, .val (.long q2), .second, .val (.int p3), .val (.int (p3 &&& (3 : Int32))), .val (.long (q2 &&& (9223372036854775807 : Int64))), .second, .val (.ref b131), .val (.int (own_v4 (q2 &&& (9223372036854775807 : Int64)))), .val (.int (1 : Int32)), .val (.int (1 : Int32)), .unset] [])) _
            refine XS.lloadN X152.here hx rfl (hb hby at_108) rfl ?_
            show Steps p.tables e below (T152.setTop (mkF m 109 #[.val (.long q1), .second, .val (.long q2), .second, .val (.int p3), .val (.int (p3 &&& (3 : Int32))), .val (.long (q2 &&& (9223372036854775807 : Int64))), .second, .val (.ref b131), .val (.int (own_v4 (q2 &&& (9223372036854775807 : Int64)))), .val (.int (1 : Int32)), .val (.int (1 : Int32)), .unset] [(.long q1)])) _
            refine st157 _ ?_
            show Steps p.tables e below (T157.setTop (mkF m 112 #[.val (.long q1), .second, .val (.long q2), .second, .val (.int p3), .val (.int (p3 &&& (3 : Int32))), .val (.long (q2 &&& (9223372036854775807 : Int64))), .second, .val (.ref b131), .val (.int (own_v4 (q2 &&& (9223372036854775807 : Int64)))), .val (.int (1 : Int32)), .val (.int (1 : Int32)), .unset] [(.ref r157)])) _
            refine st161.trans ?_
            show Steps p.tables e below (T161.setTop (mkF m 115 #[.val (.long q1), .second, .val (.long q2), .second, .val (.int p3), .val (.int (p3 &&& (3 : Int32))), .val (.long (q2 &&& (9223372036854775807 : Int64))), .second, .val (.ref b131), .val (.int (own_v4 (q2 &&& (9223372036854775807 : Int64)))), .val (.int (1 : Int32)), .val (.int (1 : Int32)), .unset] [(.int (0 : Int32))])) _
            refine XS.ifNo X161.here hx rfl (hb hby at_115) rfl ((if0 _ _).trans (own_ne_f (a := (0 : Int)) (b := (0 : Int)) (by decide) (by decide) (by decide))) ?_
            show Steps p.tables e below (T161.setTop (mkF m 118 #[.val (.long q1), .second, .val (.long q2), .second, .val (.int p3), .val (.int (p3 &&& (3 : Int32))), .val (.long (q2 &&& (9223372036854775807 : Int64))), .second, .val (.ref b131), .val (.int (own_v4 (q2 &&& (9223372036854775807 : Int64)))), .val (.int (1 : Int32)), .val (.int (1 : Int32)), .unset] [])) _
            refine XS.iconst X161.here hx rfl (hb hby at_118) ?_
            show Steps p.tables e below (T161.setTop (mkF m 119 #[.val (.long q1), .second, .val (.long q2), .second, .val (.int p3), .val (.int (p3 &&& (3 : Int32))), .val (.long (q2 &&& (9223372036854775807 : Int64))), .second, .val (.ref b131), .val (.int (own_v4 (q2 &&& (9223372036854775807 : Int64)))), .val (.int (1 : Int32)), .val (.int (1 : Int32)), .unset] [(.int (1 : Int32))])) _
            refine XS.goto X161.here hx rfl (pc0 := 119) (pc' := 123) rfl (hb hby at_119) (by decide) (by decide) ?_
            show Steps p.tables e below (T161.setTop (mkF m 123 #[.val (.long q1), .second, .val (.long q2), .second, .val (.int p3), .val (.int (p3 &&& (3 : Int32))), .val (.long (q2 &&& (9223372036854775807 : Int64))), .second, .val (.ref b131), .val (.int (own_v4 (q2 &&& (9223372036854775807 : Int64)))), .val (.int (1 : Int32)), .val (.int (1 : Int32)), .unset] [(.int (1 : Int32))])) _
            refine XS.istore X161.here hx rfl (hb hby at_123) rfl (l' := #[.val (.long q1), .second, .val (.long q2), .second, .val (.int p3), .val (.int (p3 &&& (3 : Int32))), .val (.long (q2 &&& (9223372036854775807 : Int64))), .second, .val (.ref b131), .val (.int (own_v4 (q2 &&& (9223372036854775807 : Int64)))), .val (.int (1 : Int32)), .val (.int (1 : Int32)), .val (.int (1 : Int32))]) rfl ?_
            show Steps p.tables e below (T161.setTop (mkF m 125 #[.val (.long q1), .second, .val (.long q2), .second, .val (.int p3), .val (.int (p3 &&& (3 : Int32))), .val (.long (q2 &&& (9223372036854775807 : Int64))), .second, .val (.ref b131), .val (.int (own_v4 (q2 &&& (9223372036854775807 : Int64)))), .val (.int (1 : Int32)), .val (.int (1 : Int32)), .val (.int (1 : Int32))] [])) _
            refine XS.iload X161.here hx rfl (hb hby at_125) rfl ?_
            show Steps p.tables e below (T161.setTop (mkF m 127 #[.val (.long q1), .second, .val (.long q2), .second, .val (.int p3), .val (.int (p3 &&& (3 : Int32))), .val (.long (q2 &&& (9223372036854775807 : Int64))), .second, .val (.ref b131), .val (.int (own_v4 (q2 &&& (9223372036854775807 : Int64)))), .val (.int (1 : Int32)), .val (.int (1 : Int32)), .val (.int (1 : Int32))] [(.int (own_v4 (q2 &&& (9223372036854775807 : Int64))))])) _
            refine XS.iload X161.here hx rfl (hb hby at_127) rfl ?_
            exact k9)
        have b163 : (own_v4 (q2 &&& (9223372036854775807 : Int64))).toInt = (1 : Int) := by have := own_v4_01 (q2 &&& (9223372036854775807 : Int64)); omega
        have pre164 : ∀ t, Steps p.tables e below (T161.setTop (mkF m 147 #[.val (.long q1), .second, .val (.long q2), .second, .val (.int p3), .val (.int (p3 &&& (3 : Int32))), .val (.long (q2 &&& (9223372036854775807 : Int64))), .second, .val (.ref b131), .val (.int (own_v4 (q2 &&& (9223372036854775807 : Int64)))), .val (.int (1 : Int32)), .val (.int (1 : Int32)), .val (.int (1 : Int32))] [(.int (1 : Int32))])) t → Steps p.tables e below (s₁.setTop (entryFrame m #[(.long q1), (.long q2), (.int p3)] maxLocals)) t := fun t9 k9 => pre162 t9 (by
            show Steps p.tables e below (T161.setTop (mkF m 129 #[.val (.long q1), .second, .val (.long q2), .second, .val (.int p3), .val (.int (p3 &&& (3 : Int32))), .val (.long (q2 &&& (9223372036854775807 : Int64))), .second, .val (.ref b131), .val (.int (own_v4 (q2 &&& (9223372036854775807 : Int64)))), .val (.int (1 : Int32)), .val (.int (1 : Int32)), .val (.int (1 : Int32))] [(.int (1 : Int32)), (.int (own_v4 (q2 &&& (9223372036854775807 : Int64))))])) _
            refine XS.icmpNo X161.here hx rfl (hb hby at_129) rfl (own_ne_f (a := (own_v4 (q2 &&& (9223372036854775807 : Int64))).toInt) (b := (1 : Int)) rfl (by decide) b163) ?_
            show Steps p.tables e below (T161.setTop (mkF m 132 #[.val (.long q1), .second, .val (.long q2), .second, .val (.int p3), .val (.int (p3 &&& (3 : Int32))), .val (.long (q2 &&& (9223372036854775807 : Int64))), .second, .val (.ref b131), .val (.int (own_v4 (q2 &&& (9223372036854775807 : Int64)))), .val (.int (1 : Int32)), .val (.int (1 : Int32)), .val (.int (1 : Int32))] [])) _
            refine XS.iload X161.here hx rfl (hb hby at_132) rfl ?_
            show Steps p.tables e below (T161.setTop (mkF m 134 #[.val (.long q1), .second, .val (.long q2), .second, .val (.int p3), .val (.int (p3 &&& (3 : Int32))), .val (.long (q2 &&& (9223372036854775807 : Int64))), .second, .val (.ref b131), .val (.int (own_v4 (q2 &&& (9223372036854775807 : Int64)))), .val (.int (1 : Int32)), .val (.int (1 : Int32)), .val (.int (1 : Int32))] [(.int (1 : Int32))])) _
            refine XS.ifNo X161.here hx rfl (hb hby at_134) rfl ((if0 _ _).trans (own_eq_f (a := (1 : Int)) (b := (0 : Int)) (by decide) (by decide) (by decide))) ?_
            show Steps p.tables e below (T161.setTop (mkF m 137 #[.val (.long q1), .second, .val (.long q2), .second, .val (.int p3), .val (.int (p3 &&& (3 : Int32))), .val (.long (q2 &&& (9223372036854775807 : Int64))), .second, .val (.ref b131), .val (.int (own_v4 (q2 &&& (9223372036854775807 : Int64)))), .val (.int (1 : Int32)), .val (.int (1 : Int32)), .val (.int (1 : Int32))] [])) _
            refine XS.iload X161.here hx rfl (hb hby at_137) rfl ?_
            show Steps p.tables e below (T161.setTop (mkF m 139 #[.val (.long q1), .second, .val (.long q2), .second, .val (.int p3), .val (.int (p3 &&& (3 : Int32))), .val (.long (q2 &&& (9223372036854775807 : Int64))), .second, .val (.ref b131), .val (.int (own_v4 (q2 &&& (9223372036854775807 : Int64)))), .val (.int (1 : Int32)), .val (.int (1 : Int32)), .val (.int (1 : Int32))] [(.int (1 : Int32))])) _
            refine XS.ifNo X161.here hx rfl (hb hby at_139) rfl ((if0 _ _).trans (own_eq_f (a := (1 : Int)) (b := (0 : Int)) (by decide) (by decide) (by decide))) ?_
            show Steps p.tables e below (T161.setTop (mkF m 142 #[.val (.long q1), .second, .val (.long q2), .second, .val (.int p3), .val (.int (p3 &&& (3 : Int32))), .val (.long (q2 &&& (9223372036854775807 : Int64))), .second, .val (.ref b131), .val (.int (own_v4 (q2 &&& (9223372036854775807 : Int64)))), .val (.int (1 : Int32)), .val (.int (1 : Int32)), .val (.int (1 : Int32))] [])) _
            refine XS.iconst X161.here hx rfl (hb hby at_142) ?_
            show Steps p.tables e below (T161.setTop (mkF m 143 #[.val (.long q1), .second, .val (.long q2), .second, .val (.int p3), .val (.int (p3 &&& (3 : Int32))), .val (.long (q2 &&& (9223372036854775807 : Int64))), .second, .val (.ref b131), .val (.int (own_v4 (q2 &&& (9223372036854775807 : Int64)))), .val (.int (1 : Int32)), .val (.int (1 : Int32)), .val (.int (1 : Int32))] [(.int (1 : Int32))])) _
            refine XS.goto X161.here hx rfl (pc0 := 143) (pc' := 147) rfl (hb hby at_143) (by decide) (by decide) ?_
            exact k9)
        obtain ⟨fs, hr, hrun, hended, hW, hsame⟩ := X161.leave (v := some (.int (1 : Int32))) (fun h => by rw [Bd.returns] at h; cases h)
        refine ⟨_, _, pre164 _ ?_, hrun, hended, _, _, rfl, ?_, ⟨_, rfl⟩, hW, hsame.mono (by decide) (by decide)⟩
        · show Steps p.tables e below (T161.setTop (mkF m 147 #[.val (.long q1), .second, .val (.long q2), .second, .val (.int p3), .val (.int (p3 &&& (3 : Int32))), .val (.long (q2 &&& (9223372036854775807 : Int64))), .second, .val (.ref b131), .val (.int (own_v4 (q2 &&& (9223372036854775807 : Int64)))), .val (.int (1 : Int32)), .val (.int (1 : Int32)), .val (.int (1 : Int32))] [(.int (1 : Int32))])) _
          exact retN X161 hx (t := .boolean) Bd.returns (by simp) (hb hby at_147) hr
        · show Q0 Z q1 q2 p3 h0 n0 _ T161.heap _
          rw [e161]
          exact ⟨rfl, N161⟩
set_option maxRecDepth 65536 in
set_option maxHeartbeats 40000000 in
theorem comes_1 {Post : Tables → Env → Array Value → State → Outcome → State → Prop} (hpost : ∀ tb e args s v u, (limb_1_1.after args s (.returned v) u = true ∧ limb_1_2.after args s (.returned v) u = true ∧ True) → FrameEnd s (.returned v) u (Jvm.fieldLocs frame_1_writes args s ++ Jvm.arrayLocs frame_1_arrays args s ++ Jvm.staticLocs frame_1_statics s) 16 128 → Post tb e args s (.returned v) u) :
    ArmFor flags0 classFile x code maxLocals ret World_1 tables_1 room_1 Calls_1 rest_1 Pre_1 Post := by
  intro l hfl _ _ p e ha hc hk s m args below hf hA hF happ hP
  obtain ⟨hcalls, hrest, hpre⟩ := hP
  obtain ⟨-, -, -, hnamed, -, -, -, hat⟩ := (Spec.applies_iff hf).mp happ
  obtain ⟨hg, hn⟩ := and_e (Cond.before_iff.mp (show (Jvm.Cond.and given_1 narrow_1).before args s = true from hpre))
  obtain ⟨gc, g0⟩ := and_e hg
  obtain ⟨ga0, g1⟩ := and_e g0
  obtain ⟨ga1, g2⟩ := and_e g1
  obtain ⟨w0, w1, w2, rfl⟩ : ∃ w0 w1 w2 : Value, args = #[w0, w1, w2] := by
    have hs : args.size = 3 := by simpa [Cond.value, given_1] using gc
    obtain ⟨L⟩ := args
    match L, hs with
    | [w0, w1, w2], _ => exact ⟨w0, w1, w2, rfl⟩
  have hw := fun d (hd : d ∈ tables_1) => atoms_spec (ws := Jvm.Cond.code x code maxLocals ret :: tables_1) hat d (List.mem_cons_of_mem _ hd)
  obtain ⟨i0, ei0⟩ := isL_v ga0
  obtain rfl : w0 = (.long i0) := Option.some.inj ei0
  obtain ⟨i1, ei1⟩ := isL_v ga1
  obtain rfl : w1 = (.long i1) := Option.some.inj ei1
  obtain ⟨i2, ei2⟩ := is_v g2
  obtain rfl : w2 = (.int i2) := Option.some.inj ei2
  obtain ⟨n, o, h1, h2, h3, _, L, rfl, ⟨rfl, N⟩, hq⟩ := rm0 l s _ hw tables_1 i0 i1 i2 s.heap s.heap.size (Nat.le_refl _) p e ha hc hk s m _ below hf ((Spec.applies_iff_loose hf).mp happ).1 ⟨rfl, State.Warmed39.refl s, rfl⟩ trivial
  refine ⟨n, _, h1, h2, h3, hpost _ _ _ _ _ _ ⟨Cond.after_iff.mpr rfl, Cond.after_iff.mpr (eq_i res_at (Term.int_eval (1)) rfl), trivial⟩ ⟨hq.1, hq.2.1, (hq.2.2.sift fun y hy => Or.inr (N y hy)).mono (by decide) (by decide)⟩⟩
theorem main_1_1 : Claimed_1_1 := comes_1 fun _ _ _ _ _ _ h hF => ⟨h.1, hF⟩
theorem main_1_2 : Claimed_1_2 := comes_1 fun _ _ _ _ _ _ h hF => ⟨h.2.1, hF⟩
end Jvm.Pilot.@@N@@
namespace Jvm.Pilot.@@N@@
open Jvm Jvm.ClassFile Sem Op Lib Jvm.Free Jvm.Stand Jvm.Pilot.@@N@@.Jvm.D
/-! MADE BY PROGRAM (witnessworld.py) out of the Statement's table words and the real class files: 10 classes; the members and pool entries that the words name. The judged class is class 1, her method 1. -/
namespace start1
open Jvm.ClassFile
def u (s : String) : CpInfo := .utf8 (stringToUtf16 s)
/-- a pool by its gaps: so many unusable entries, then the entry; so many at the end -/
def gap : Nat → List CpInfo → List CpInfo
  | 0, r => r
  | n + 1, r => .unusable :: gap n r
def poolList (es : List (Nat × CpInfo)) (last : Nat) : List CpInfo := es.foldr (fun e r => gap e.1 (e.2 :: r)) (gap last [])
def pool (es : List (Nat × CpInfo)) (last : Nat) : Array CpInfo := ⟨poolList es last⟩
def fileOf (pool : Array CpInfo) (this : Nat) (attrs : Array Attribute := #[]) (ms : Array MethodInfo := #[]) (fl : Nat := 33) (sup : Nat := 0) (ifs : Array Nat := #[]) (fds : Array FieldInfo := #[]) : ClassFile where
  minorVersion := 0
  majorVersion := 65
  constantPool := pool
  accessFlags := fl
  thisClass := this
  superClass := sup
  interfaces := ifs
  fields := fds
  methods := ms
  attributes := attrs
def plain (name : String) (sup : Option ClassId) : Class where
  name := name
  kind := .ordinary
  loader := none
  accessFlags := 33
  super := sup
  interfaces := #[]
  cf := none
  fields := #[]
  methods := #[]
  instanceTypes := #[]
  staticTypes := #[]
  resolved := #[]
  callSites := []
  init := .initialized
  statics := none
  mirror := none

def pool0 : Array CpInfo := pool [(5, u "<init>"), (0, u "()V"), (1, .class_ 10), (1, u "java/lang/Object")] 113

def k0c0 : Code := { maxStack := 0, maxLocals := 1, code := object_method_1_code, exceptionTable := #[], attributes := #[] }
def k0m0 : Method := { name := "<init>", desc := "()V", sig := { parameters := [], returnType := none }, accessFlags := 1, code := some k0c0 }
/-- java/lang/Object -/
def k0 : Class := { plain "java/lang/Object" none with
  accessFlags := 33
  interfaces := #[]
  cf := some (fileOf pool0 8 #[] #[{ accessFlags := 1, nameIndex := 5, descriptorIndex := 6, attributes := #[] }] 33 0 #[] #[])
  fields := #[]
  methods := #[k0m0]
  instanceTypes := #[]
  staticTypes := #[]
  resolved := Array.replicate 124 none
  statics := none }

def pool1 : Array CpInfo := pool [(2, .class_ 4), (1, u "java/lang/Object"), (0, u "<init>"), (0, u "()V"), (0, .class_ 8), (0, u "com/example/mass_cluster/masscluster/GzipMembers$Place"), (0, .long 18446744073709551615), (3, .long 9223372036854775807), (1, .methodref 7 16), (0, .nameAndType 5 17), (0, u "(JJ)V"), (0, .methodref 7 19), (0, .nameAndType 20 21), (0, u "isPastMemberStart"), (0, u "()Z"), (0, .methodref 7 23), (0, .nameAndType 24 21), (0, u "isInMember"), (0, .methodref 7 26), (0, .nameAndType 27 28), (0, u "inFile"), (0, u "(J)Lcom/example/mass_cluster/masscluster/GzipMembers$Place;"), (0, .class_ 30), (0, u "com/example/mass_cluster/masscluster/PlaceIsPastMemberStartPinLaw"), (2, u "law"), (0, u "(JJI)Z")] 7

def k1m0 : Method := { name := "<init>", desc := "()V", sig := { parameters := [], returnType := none }, accessFlags := 1, code := none }
def k1c1 : Code := { maxStack := 6, maxLocals := 13, code := code, exceptionTable := #[], attributes := #[] }
def k1m1 : Method := { name := "law", desc := "(JJI)Z", sig := { parameters := [.long, .long, .int], returnType := some .boolean }, accessFlags := 9, code := some k1c1 }
/-- com/example/mass_cluster/masscluster/PlaceIsPastMemberStartPinLaw -/
def k1 : Class := { plain "com/example/mass_cluster/masscluster/PlaceIsPastMemberStartPinLaw" (some 0) with
  accessFlags := 49
  interfaces := #[]
  cf := some (fileOf pool1 29 #[] #[{ accessFlags := 1, nameIndex := 5, descriptorIndex := 6, attributes := #[] }, { accessFlags := 9, nameIndex := 33, descriptorIndex := 34, attributes := #[] }] 49 2 #[] #[])
  fields := #[]
  methods := #[k1m0, k1m1]
  instanceTypes := #[]
  staticTypes := #[]
  resolved := Array.replicate 42 none
  statics := none }

def pool2 : Array CpInfo := pool [(1, .methodref 2 3), (0, .class_ 4), (0, .nameAndType 5 6), (0, u "java/lang/Object"), (0, u "<init>"), (0, u "()V"), (0, .class_ 8), (0, u "java/lang/Record")] 13

def k2c0 : Code := { maxStack := 1, maxLocals := 1, code := jdk_30_method_1_code, exceptionTable := #[], attributes := #[] }
def k2m0 : Method := { name := "<init>", desc := "()V", sig := { parameters := [], returnType := none }, accessFlags := 4, code := some k2c0 }
/-- java/lang/Record -/
def k2 : Class := { plain "java/lang/Record" (some 0) with
  accessFlags := 1057
  interfaces := #[]
  cf := some (fileOf pool2 7 #[] #[{ accessFlags := 4, nameIndex := 5, descriptorIndex := 6, attributes := #[] }] 1057 2 #[] #[])
  fields := #[]
  methods := #[k2m0]
  instanceTypes := #[]
  staticTypes := #[]
  resolved := Array.replicate 22 none
  statics := none }

def pool3 : Array CpInfo := pool [(1, .methodref 2 3), (0, .class_ 4), (0, .nameAndType 5 6), (0, u "java/lang/Record"), (0, u "<init>"), (0, u "()V"), (0, .fieldref 8 9), (0, .class_ 10), (0, .nameAndType 11 12), (0, u "com/example/mass_cluster/masscluster/GzipMembers$Place"), (0, u "offset"), (0, u "J"), (0, .fieldref 8 14), (0, .nameAndType 15 12), (0, u "inMember"), (0, .long 18446744073709551615), (1, .methodref 8 19), (0, .nameAndType 5 20), (0, u "(JJ)V"), (6, u "isPastMemberStart"), (0, u "()Z"), (11, u "FILE"), (4, u "inFile"), (0, u "(J)Lcom/example/mass_cluster/masscluster/GzipMembers$Place;"), (0, u "isInMember"), (11, .class_ 60), (0, u "com/example/mass_cluster/masscluster/GzipMembers")] 30

def k3c0 : Code := { maxStack := 3, maxLocals := 5, code := prog_46_method_1_code, exceptionTable := #[], attributes := #[] }
def k3m0 : Method := { name := "<init>", desc := "(JJ)V", sig := { parameters := [.long, .long], returnType := none }, accessFlags := 0, code := some k3c0 }
def k3c1 : Code := { maxStack := 6, maxLocals := 2, code := prog_46_method_2_code, exceptionTable := #[], attributes := #[] }
def k3m1 : Method := { name := "inFile", desc := "(J)Lcom/example/mass_cluster/masscluster/GzipMembers$Place;", sig := { parameters := [.long], returnType := some (.object "com/example/mass_cluster/masscluster/GzipMembers$Place") }, accessFlags := 8, code := some k3c1 }
def k3c2 : Code := { maxStack := 4, maxLocals := 1, code := prog_46_method_3_code, exceptionTable := #[], attributes := #[] }
def k3m2 : Method := { name := "isInMember", desc := "()Z", sig := { parameters := [], returnType := some .boolean }, accessFlags := 0, code := some k3c2 }
def k3c3 : Code := { maxStack := 4, maxLocals := 1, code := prog_46_method_4_code, exceptionTable := #[], attributes := #[] }
def k3m3 : Method := { name := "isPastMemberStart", desc := "()Z", sig := { parameters := [], returnType := some .boolean }, accessFlags := 0, code := some k3c3 }
/-- com/example/mass_cluster/masscluster/GzipMembers$Place -/
def k3 : Class := { plain "com/example/mass_cluster/masscluster/GzipMembers$Place" (some 2) with
  accessFlags := 48
  interfaces := #[]
  cf := some (fileOf pool3 8 #[.nestHost 59] #[{ accessFlags := 0, nameIndex := 5, descriptorIndex := 20, attributes := #[] }, { accessFlags := 8, nameIndex := 45, descriptorIndex := 46, attributes := #[] }, { accessFlags := 0, nameIndex := 47, descriptorIndex := 28, attributes := #[] }, { accessFlags := 0, nameIndex := 27, descriptorIndex := 28, attributes := #[] }] 48 2 #[] #[{ accessFlags := 18, nameIndex := 11, descriptorIndex := 12, attributes := #[] }, { accessFlags := 18, nameIndex := 15, descriptorIndex := 12, attributes := #[] }, { accessFlags := 24, nameIndex := 40, descriptorIndex := 12, attributes := #[] }])
  fields := #[{ name := "offset", type := .long, accessFlags := 18, slot := 0, constantValue := 0 }, { name := "inMember", type := .long, accessFlags := 18, slot := 1, constantValue := 0 }, { name := "FILE", type := .long, accessFlags := 24, slot := 0, constantValue := 0 }]
  methods := #[k3m0, k3m1, k3m2, k3m3]
  instanceTypes := #[.long, .long]
  staticTypes := #[.long]
  resolved := Array.replicate 91 none
  statics := none }

def pool4 : Array CpInfo := pool [(1, u "java/lang/Cloneable"), (0, .class_ 1), (0, u "java/lang/Object"), (0, .class_ 3)] 3

/-- java/lang/Cloneable -/
def k4 : Class := { plain "java/lang/Cloneable" (some 0) with
  accessFlags := 1537
  interfaces := #[]
  cf := some (fileOf pool4 2 #[] #[] 1537 4 #[] #[])
  fields := #[]
  methods := #[]
  instanceTypes := #[]
  staticTypes := #[]
  resolved := Array.replicate 8 none
  statics := none }

def pool5 : Array CpInfo := pool [(1, u "java/io/Serializable"), (0, .class_ 1), (0, u "java/lang/Object"), (0, .class_ 3)] 3

/-- java/io/Serializable -/
def k5 : Class := { plain "java/io/Serializable" (some 0) with
  accessFlags := 1537
  interfaces := #[]
  cf := some (fileOf pool5 2 #[] #[] 1537 4 #[] #[])
  fields := #[]
  methods := #[]
  instanceTypes := #[]
  staticTypes := #[]
  resolved := Array.replicate 8 none
  statics := none }

/-- the primitive byte -/
def k6 : Class := { plain "byte" none with kind := .primitive 'B', accessFlags := 0x411 }
/-- [B -/
def k7 : Class := { plain "[B" (some 0) with kind := .array 6 .byte, interfaces := #[4, 5], accessFlags := 1041 }

/-- the primitive int -/
def k8 : Class := { plain "int" none with kind := .primitive 'I', accessFlags := 0x411 }
/-- [I -/
def k9 : Class := { plain "[I" (some 0) with kind := .array 8 .int, interfaces := #[4, 5], accessFlags := 1041 }

def heap : Heap := #[]
def classes : Array Class := #[k0, k1, k2, k3, k4, k5, k6, k7, k8, k9]
def interned : List (Array UInt16 × Addr) := []
def slotsUsed : Nat := 0
def theMethod : MethodId := ⟨1, 1⟩
def args0 : Array Value := #[.long 5, .long 7, .int 2]
def aboutOver (below : List Frame) : State where
  vm := { classes := classes, interned := interned.toArray }
  heap := heap
  slotsUsed := slotsUsed
  threads := #[{ frames := .invoking theMethod args0 :: below }]
def below0 : List Frame := [.native { method := ⟨0, 0⟩, args := #[] }]
def about1 : State := aboutOver below0
def p0 : Program := .bare "" "" ""
def e0 : Env := launch0.env 0 0 0
theorem w_frames : about1.frames = Frame.invoking theMethod args0 :: below0 := rfl
set_option maxRecDepth 65536 in
theorem w_args : argsFit about1.vm theMethod args0 = true := by decide +kernel
set_option maxRecDepth 65536 in
theorem w_heap : heapFits about1 = true := by decide +kernel
set_option maxRecDepth 65536 in
theorem w_runnable : about1.curStatus? = some .runnable := by decide +kernel
set_option maxRecDepth 65536 in
theorem w_alone : about1.alone = true := by decide +kernel
set_option maxRecDepth 65536 in
theorem w_named : about1.methodNamed? x = some theMethod := by decide +kernel
set_option maxRecDepth 65536 in
theorem w_hears : about1.hears theMethod below0 = true := by decide +kernel
set_option maxRecDepth 65536 in
theorem w_ripe : about1.ripe theMethod args0 below0 = true := by decide +kernel
theorem w_running : about1.status = .running := rfl
set_option maxRecDepth 65536 in
theorem w_room : about1.hasRoom e0.platform room_1 = true :=
  launch0.hasRoom_least _ room_1 (by decide +kernel) (by decide +kernel) (by decide +kernel) (by decide +kernel) (by decide +kernel) (by decide +kernel)
theorem allAtoms_all (ts : List Jvm.Cond) (a : Array Jvm.Value) (st : Jvm.State) : (allAtoms ts).before a st = ts.all (fun c => c.before a st) := by
  induction ts with
  | nil => rfl
  | cons c t ih =>
    show (Jvm.Cond.and c (allAtoms t)).before a st = _
    rw [Jvm.Cond.before_and, ih, List.all_cons]
def words1 : List Jvm.Cond := Jvm.Cond.code x code maxLocals ret :: tables_1
/-- a 'code' word, met by the world's own term for the bytes: nothing is compared byte by byte -/
theorem code_word {y : MethodName} {bytes : ByteArray} {mx : Nat} {rt : Option FieldType} {a : Array Value} {s : State} {m : MethodId} {meth : Method} {c : Code} (h1 : s.methodNamed? y = some m) (h2 : s.vm.method? m = some meth) (h3 : meth.code = some c) (h4 : c.code = bytes)
    (h5 : (c.maxLocals == mx && c.exceptionTable.isEmpty && decide (c.maxStack ≤ mostOperands) && decide (meth.sig.returnType = rt) && !meth.locks && decide (parseMethodDescriptor y.desc = some meth.sig)) = true) : (Jvm.Cond.code y bytes mx rt).before a s = true := by
  simp only [Bool.and_eq_true, beq_iff_eq, Bool.not_eq_true', decide_eq_true_eq] at h5
  obtain ⟨⟨⟨⟨⟨g1, g2⟩, g3⟩, g4⟩, g5⟩, g6⟩ := h5
  simp [Cond.before, Cond.holds, Cond.value, h1, h2, h3, h4, g1, g2, g3, g4, g5, g6]
def isCode : Jvm.Cond → Bool
  | .code _ _ _ _ => true
  | _ => false
theorem all_split {L : List Jvm.Cond} {P : Jvm.Cond → Bool} (h1 : L.all (fun c => isCode c || P c) = true) (h2 : ∀ c ∈ L.filter isCode, P c = true) : L.all P = true := by
  refine List.all_eq_true.mpr fun c hc => ?_
  have h := List.all_eq_true.mp h1 c hc
  rcases Bool.eq_false_or_eq_true (isCode c) with hi | hi
  · exact h2 c (List.mem_filter.mpr ⟨hc, hi⟩)
  · simpa [hi] using h
set_option maxRecDepth 65536 in
theorem w_c0 : (Jvm.Cond.code x code maxLocals ret).before args0 about1 = true := code_word (m := ⟨1, 1⟩) (meth := k1m1) (c := k1c1) (by decide +kernel) rfl rfl rfl (by decide +kernel)
set_option maxRecDepth 65536 in
theorem w_c1 : (Jvm.Cond.code ({ cls := "com/example/mass_cluster/masscluster/GzipMembers$Place", name := "<init>", desc := "(JJ)V" } : Jvm.MethodName) prog_46_method_1_code (5 : Nat) (Option.none : Option Jvm.ClassFile.FieldType)).before args0 about1 = true := code_word (m := ⟨3, 0⟩) (meth := k3m0) (c := k3c0) (by decide +kernel) rfl rfl rfl (by decide +kernel)
set_option maxRecDepth 65536 in
theorem w_c2 : (Jvm.Cond.code ({ cls := "java/lang/Record", name := "<init>", desc := "()V" } : Jvm.MethodName) jdk_30_method_1_code (1 : Nat) (Option.none : Option Jvm.ClassFile.FieldType)).before args0 about1 = true := code_word (m := ⟨2, 0⟩) (meth := k2m0) (c := k2c0) (by decide +kernel) rfl rfl rfl (by decide +kernel)
set_option maxRecDepth 65536 in
theorem w_c3 : (Jvm.Cond.code ({ cls := "java/lang/Object", name := "<init>", desc := "()V" } : Jvm.MethodName) object_method_1_code (1 : Nat) (Option.none : Option Jvm.ClassFile.FieldType)).before args0 about1 = true := code_word (m := ⟨0, 0⟩) (meth := k0m0) (c := k0c0) (by decide +kernel) rfl rfl rfl (by decide +kernel)
set_option maxRecDepth 65536 in
theorem w_c4 : (Jvm.Cond.code ({ cls := "com/example/mass_cluster/masscluster/GzipMembers$Place", name := "isPastMemberStart", desc := "()Z" } : Jvm.MethodName) prog_46_method_4_code (1 : Nat) (Option.some Jvm.ClassFile.FieldType.boolean)).before args0 about1 = true := code_word (m := ⟨3, 3⟩) (meth := k3m3) (c := k3c3) (by decide +kernel) rfl rfl rfl (by decide +kernel)
set_option maxRecDepth 65536 in
theorem w_c5 : (Jvm.Cond.code ({ cls := "com/example/mass_cluster/masscluster/GzipMembers$Place", name := "isInMember", desc := "()Z" } : Jvm.MethodName) prog_46_method_3_code (1 : Nat) (Option.some Jvm.ClassFile.FieldType.boolean)).before args0 about1 = true := code_word (m := ⟨3, 2⟩) (meth := k3m2) (c := k3c2) (by decide +kernel) rfl rfl rfl (by decide +kernel)
set_option maxRecDepth 65536 in
theorem w_c6 : (Jvm.Cond.code ({ cls := "com/example/mass_cluster/masscluster/GzipMembers$Place", name := "inFile", desc := "(J)Lcom/example/mass_cluster/masscluster/GzipMembers$Place;" } : Jvm.MethodName) prog_46_method_2_code (2 : Nat) (Option.some (Jvm.ClassFile.FieldType.object "com/example/mass_cluster/masscluster/GzipMembers$Place"))).before args0 about1 = true := code_word (m := ⟨3, 1⟩) (meth := k3m1) (c := k3c1) (by decide +kernel) rfl rfl rfl (by decide +kernel)
def codes1 : List Jvm.Cond := [Jvm.Cond.code x code maxLocals ret, Jvm.Cond.code ({ cls := "com/example/mass_cluster/masscluster/GzipMembers$Place", name := "<init>", desc := "(JJ)V" } : Jvm.MethodName) prog_46_method_1_code (5 : Nat) (Option.none : Option Jvm.ClassFile.FieldType), Jvm.Cond.code ({ cls := "java/lang/Record", name := "<init>", desc := "()V" } : Jvm.MethodName) jdk_30_method_1_code (1 : Nat) (Option.none : Option Jvm.ClassFile.FieldType), Jvm.Cond.code ({ cls := "java/lang/Object", name := "<init>", desc := "()V" } : Jvm.MethodName) object_method_1_code (1 : Nat) (Option.none : Option Jvm.ClassFile.FieldType), Jvm.Cond.code ({ cls := "com/example/mass_cluster/masscluster/GzipMembers$Place", name := "isPastMemberStart", desc := "()Z" } : Jvm.MethodName) prog_46_method_4_code (1 : Nat) (Option.some Jvm.ClassFile.FieldType.boolean), Jvm.Cond.code ({ cls := "com/example/mass_cluster/masscluster/GzipMembers$Place", name := "isInMember", desc := "()Z" } : Jvm.MethodName) prog_46_method_3_code (1 : Nat) (Option.some Jvm.ClassFile.FieldType.boolean), Jvm.Cond.code ({ cls := "com/example/mass_cluster/masscluster/GzipMembers$Place", name := "inFile", desc := "(J)Lcom/example/mass_cluster/masscluster/GzipMembers$Place;" } : Jvm.MethodName) prog_46_method_2_code (2 : Nat) (Option.some (Jvm.ClassFile.FieldType.object "com/example/mass_cluster/masscluster/GzipMembers$Place"))]
set_option maxRecDepth 65536 in
theorem codes_eq : words1.filter isCode = codes1 := rfl
theorem w_codes : ∀ c ∈ words1.filter isCode, c.before args0 about1 = true := by
  rw [codes_eq]
  intro c hc
  simp only [codes1, List.mem_cons, List.not_mem_nil, or_false] at hc
  rcases hc with rfl | rfl | rfl | rfl | rfl | rfl | rfl
  · exact w_c0
  · exact w_c1
  · exact w_c2
  · exact w_c3
  · exact w_c4
  · exact w_c5
  · exact w_c6
set_option maxRecDepth 65536 in
theorem w_t1 : (words1.take 24).all (fun c => isCode c || c.before args0 about1) = true := by decide +kernel
set_option maxRecDepth 65536 in
theorem w_t2 : (words1.drop 24).all (fun c => isCode c || c.before args0 about1) = true := by decide +kernel
theorem w_tables : (allAtoms (Jvm.Cond.code x code maxLocals ret :: tables_1)).before args0 about1 = true := by
  rw [allAtoms_all]
  show words1.all (fun c => c.before args0 about1) = true
  refine all_split ?_ w_codes
  rw [← List.take_append_drop 24 words1, List.all_append, w_t1, w_t2]
  rfl
set_option maxRecDepth 65536 in
theorem w_case : (Jvm.Cond.and given_1 narrow_1).before args0 about1 = true := by decide +kernel
theorem w_applies : (headSpec (Jvm.Cond.code x code maxLocals ret :: tables_1) room_1).applies x e0.platform about1 = true :=
  (Spec.applies_iff w_frames).mpr ⟨w_running, w_runnable, w_alone, w_named, w_hears, w_ripe, w_room, w_tables⟩
theorem atStart : AtStart classFile x code maxLocals ret World_1 tables_1 room_1 Calls_1 rest_1 Pre_1 launch0 p0 e0 about1 theMethod args0 below0 :=
  ⟨lists_1, trivial, launch0.admits_env _ _ _, launch0.least_env, fairChoices_fair.cas, fairChoices_fair.clock, w_frames, w_args, w_heap, w_applies, trivial, trivial, w_case⟩
end start1
theorem witness_1 : WitnessClaimed_1 := ⟨start1.p0, start1.e0, start1.about1, start1.theMethod, start1.args0, start1.below0, start1.atStart⟩
end Jvm.Pilot.@@N@@
