import JvmDerived
import JvmDerived.Pilot.@@N@@Statement
import JvmDerived.Pilot.@@N@@Code
set_option linter.unusedVariables false
set_option linter.unusedSimpArgs false
namespace Jvm.Pilot.@@N@@
open Jvm Jvm.ClassFile Sem Op Lib Jvm.Free Jvm.Stand Jvm.LawKit Jvm.RoadKit Bundle Jvm.Pilot.@@N@@.Jvm.D

theorem own_lt_t {x y : Int32} {a b : Int} (hx : x.toInt = a) (hy : y.toInt = b) (h : a < b) : if_icmp.holds .lt x y = true := (tlt (Int32.lt_iff_toInt_lt.mpr (by omega))).1
theorem own_lt_f {x y : Int32} {a b : Int} (hx : x.toInt = a) (hy : y.toInt = b) (h : ¬ (a < b)) : if_icmp.holds .lt x y = false := (flt (fun q => h (by have := Int32.lt_iff_toInt_lt.mp q; omega))).1
theorem own_ge_t {x y : Int32} {a b : Int} (hx : x.toInt = a) (hy : y.toInt = b) (h : ¬ (a < b)) : if_icmp.holds .ge x y = true := (flt (fun q => h (by have := Int32.lt_iff_toInt_lt.mp q; omega))).2.1
theorem own_ge_f {x y : Int32} {a b : Int} (hx : x.toInt = a) (hy : y.toInt = b) (h : a < b) : if_icmp.holds .ge x y = false := (tlt (Int32.lt_iff_toInt_lt.mpr (by omega))).2.1
theorem own_gt_t {x y : Int32} {a b : Int} (hx : x.toInt = a) (hy : y.toInt = b) (h : b < a) : if_icmp.holds .gt x y = true := (tlt (Int32.lt_iff_toInt_lt.mpr (by omega))).2.2.1
theorem own_gt_f {x y : Int32} {a b : Int} (hx : x.toInt = a) (hy : y.toInt = b) (h : ¬ (b < a)) : if_icmp.holds .gt x y = false := (flt (fun q => h (by have := Int32.lt_iff_toInt_lt.mp q; omega))).2.2.1
theorem own_le_t {x y : Int32} {a b : Int} (hx : x.toInt = a) (hy : y.toInt = b) (h : ¬ (b < a)) : if_icmp.holds .le x y = true := (flt (fun q => h (by have := Int32.lt_iff_toInt_lt.mp q; omega))).2.2.2
theorem own_le_f {x y : Int32} {a b : Int} (hx : x.toInt = a) (hy : y.toInt = b) (h : b < a) : if_icmp.holds .le x y = false := (tlt (Int32.lt_iff_toInt_lt.mpr (by omega))).2.2.2
theorem own_eq_t {x y : Int32} {a b : Int} (hx : x.toInt = a) (hy : y.toInt = b) (h : a = b) : if_icmp.holds .eq x y = true := (teq (Int32.toInt_inj.mp (by omega))).1
theorem own_eq_f {x y : Int32} {a b : Int} (hx : x.toInt = a) (hy : y.toInt = b) (h : ¬ (a = b)) : if_icmp.holds .eq x y = false := (feq (fun q => h (by rw [← hx, ← hy, q]))).1
theorem own_ne_t {x y : Int32} {a b : Int} (hx : x.toInt = a) (hy : y.toInt = b) (h : ¬ (a = b)) : if_icmp.holds .ne x y = true := (feq (fun q => h (by rw [← hx, ← hy, q]))).2
theorem own_ne_f {x y : Int32} {a b : Int} (hx : x.toInt = a) (hy : y.toInt = b) (h : a = b) : if_icmp.holds .ne x y = false := (teq (Int32.toInt_inj.mp (by omega))).2

theorem own_Llt_t {x y : Int64} {a b : Int} (hx : x.toInt = a) (hy : y.toInt = b) (h : a < b) : ifCond.holds .lt (lcmpW x y) = true := (if0 _ _).trans (tlt ((lw_lt x y).mpr (Int64.lt_iff_toInt_lt.mpr (by omega)))).1
theorem own_Llt_f {x y : Int64} {a b : Int} (hx : x.toInt = a) (hy : y.toInt = b) (h : ¬ (a < b)) : ifCond.holds .lt (lcmpW x y) = false := (if0 _ _).trans (flt (fun q => h (by have := Int64.lt_iff_toInt_lt.mp ((lw_lt x y).mp q); omega))).1
theorem own_Lge_t {x y : Int64} {a b : Int} (hx : x.toInt = a) (hy : y.toInt = b) (h : ¬ (a < b)) : ifCond.holds .ge (lcmpW x y) = true := (if0 _ _).trans (flt (fun q => h (by have := Int64.lt_iff_toInt_lt.mp ((lw_lt x y).mp q); omega))).2.1
theorem own_Lge_f {x y : Int64} {a b : Int} (hx : x.toInt = a) (hy : y.toInt = b) (h : a < b) : ifCond.holds .ge (lcmpW x y) = false := (if0 _ _).trans (tlt ((lw_lt x y).mpr (Int64.lt_iff_toInt_lt.mpr (by omega)))).2.1
theorem own_Lgt_t {x y : Int64} {a b : Int} (hx : x.toInt = a) (hy : y.toInt = b) (h : b < a) : ifCond.holds .gt (lcmpW x y) = true := (if0 _ _).trans (tlt ((lw_gt x y).mpr (Int64.lt_iff_toInt_lt.mpr (by omega)))).2.2.1
theorem own_Lgt_f {x y : Int64} {a b : Int} (hx : x.toInt = a) (hy : y.toInt = b) (h : ¬ (b < a)) : ifCond.holds .gt (lcmpW x y) = false := (if0 _ _).trans (flt (fun q => h (by have := Int64.lt_iff_toInt_lt.mp ((lw_gt x y).mp q); omega))).2.2.1
theorem own_Lle_t {x y : Int64} {a b : Int} (hx : x.toInt = a) (hy : y.toInt = b) (h : ¬ (b < a)) : ifCond.holds .le (lcmpW x y) = true := (if0 _ _).trans (flt (fun q => h (by have := Int64.lt_iff_toInt_lt.mp ((lw_gt x y).mp q); omega))).2.2.2
theorem own_Lle_f {x y : Int64} {a b : Int} (hx : x.toInt = a) (hy : y.toInt = b) (h : b < a) : ifCond.holds .le (lcmpW x y) = false := (if0 _ _).trans (tlt ((lw_gt x y).mpr (Int64.lt_iff_toInt_lt.mpr (by omega)))).2.2.2
theorem own_Leq_t {x y : Int64} {a b : Int} (hx : x.toInt = a) (hy : y.toInt = b) (h : a = b) : ifCond.holds .eq (lcmpW x y) = true := (if0 _ _).trans (teq ((lw_eq x y).mpr (Int64.toInt_inj.mp (by omega)))).1
theorem own_Leq_f {x y : Int64} {a b : Int} (hx : x.toInt = a) (hy : y.toInt = b) (h : ¬ (a = b)) : ifCond.holds .eq (lcmpW x y) = false := (if0 _ _).trans (feq (fun q => h (by rw [← hx, ← hy, (lw_eq x y).mp q]))).1
theorem own_Lne_t {x y : Int64} {a b : Int} (hx : x.toInt = a) (hy : y.toInt = b) (h : ¬ (a = b)) : ifCond.holds .ne (lcmpW x y) = true := (if0 _ _).trans (feq (fun q => h (by rw [← hx, ← hy, (lw_eq x y).mp q]))).2
theorem own_Lne_f {x y : Int64} {a b : Int} (hx : x.toInt = a) (hy : y.toInt = b) (h : a = b) : ifCond.holds .ne (lcmpW x y) = false := (if0 _ _).trans (teq ((lw_eq x y).mpr (Int64.toInt_inj.mp (by omega)))).2

def own_v1 (q : Int64) : Int32 := if -999999999999999 ≤ q.toInt ∧ q.toInt ≤ 999999999999999 then 1 else 0
def own_v3 (q : Int64) : Int64 := if q.toInt < 0 then -q else q
def own_v2 (q : Int64) : Int32 := if ¬ (q.toInt = -9223372036854775808) ∧ (own_v3 q).toInt ≤ 999999999999999 then 1 else 0
theorem own_same (q : Int64) : own_v1 q = own_v2 q := by
  have h1 := rng64 q
  have h2 := c_lneg q
  have h3 := rng64 (-q)
  have h4 : q.toInt < 0 → (own_v3 q).toInt = (-q).toInt := fun z => by unfold own_v3; rw [if_pos z]
  have h5 : ¬ (q.toInt < 0) → (own_v3 q).toInt = q.toInt := fun z => by unfold own_v3; rw [if_neg z]
  have h6 : ((own_v3 q).toInt = q.toInt ∧ ¬ (q.toInt < 0)) ∨ ((own_v3 q).toInt = (-q).toInt ∧ q.toInt < 0) := by
    by_cases k : q.toInt < 0
    · exact Or.inr ⟨h4 k, k⟩
    · exact Or.inl ⟨h5 k, k⟩
  clear h4 h5
  unfold own_v1 own_v2
  by_cases h : -999999999999999 ≤ q.toInt ∧ q.toInt ≤ 999999999999999
  · rw [if_pos h, if_pos (by omega)]
  · rw [if_neg h, if_neg (by omega)]

theorem d3_0 : decode jdk_29_method_61_code 0 = .ok (.lload_n 0, 1) := by decide +kernel
theorem d3_1 : decode jdk_29_method_61_code 1 = .ok (.lconst 0, 1) := by decide +kernel
theorem d3_2 : decode jdk_29_method_61_code 2 = .ok (.lcmp, 1) := by decide +kernel
theorem d3_3 : decode jdk_29_method_61_code 3 = .ok (.ifCond .ge 8, 3) := by decide +kernel
theorem d3_6 : decode jdk_29_method_61_code 6 = .ok (.lload_n 0, 1) := by decide +kernel
theorem d3_7 : decode jdk_29_method_61_code 7 = .ok (.lneg, 1) := by decide +kernel
theorem d3_8 : decode jdk_29_method_61_code 8 = .ok (.goto 4, 3) := by decide +kernel
theorem d3_11 : decode jdk_29_method_61_code 11 = .ok (.lload_n 0, 1) := by decide +kernel
theorem d3_12 : decode jdk_29_method_61_code 12 = .ok (.lreturn, 1) := by decide +kernel
theorem ef_3 (m : MethodId) (q1 : Int64) : entryFrame m #[(.long q1)] 2 = mkF m 0 #[.val (.long q1), .second] [] := by first | (simp [entryFrame, mkF, argsToLocals, Value.category]; done) | rfl
def Q3 (Z : State) (q1 : Int64) (h0 : Heap) (n0 : Nat) (v : Option Value) (h : Heap) (L : List Loc) : Prop := v = some (.long (own_v3 q1)) ∧ Fr n0 L ∧ h = h0
set_option maxRecDepth 65536 in
set_option maxHeartbeats 40000000 in
theorem rm3 (l : Launch) (Z : State) (a0 : Array Value) (hw : ∀ d ∈ tables_1, d.before a0 Z = true) (ws : List Jvm.Cond) (q1 : Int64) (h0 : Heap) (n0 : Nat) (Z0 : n0 ≤ h0.size)  :
    MetFree l (⟨"java/lang/Math", "abs", "(J)J"⟩ : MethodName) (head1 (Jvm.Cond.code (⟨"java/lang/Math", "abs", "(J)J"⟩ : MethodName) jdk_29_method_61_code 2 (some .long) :: ws) ({ frames := 0, cells := 0, slots := 0, locals := 0 } : Room)) (fun a U => a = #[(.long q1)] ∧ Z.Warmed39 U.vm ∧ U.heap = h0) (fun _ _ _ _ _ => True) (fun _ U o U' => ∃ v L, o = .returned v ∧ Q3 Z q1 h0 n0 v U'.heap L ∧ FrameEnd U o U' L ({ frames := 0, cells := 0, slots := 0, locals := 0 } : Room).cells ({ frames := 0, cells := 0, slots := 0, locals := 0 } : Room).slots) := by
  refine MetFree.of_bodySF (Jvm.Free.JP.mathPlain rfl (by decide +kernel)) hisR ?_
  intro p e s m args below meth c s₁ Bd hml0 hP hK
  obtain ⟨rfl, hZ, hh⟩ := hP
  have hx := Bd.exec
  have hby := Bd.bytes
  have hml : c.maxLocals = 2 := hml0
  have hown : s.vm.findClass "java/lang/Math" = some m.cls := findClass_of_methodNamed Bd.named
  have hnm := (name_of_methodNamed Bd.named Bd.method).1
  have X0 : Stand p l e ({ frames := 0, cells := 0, slots := 0, locals := 0 } : Room) s m #[(.long q1)] below meth c s₁ [] 0 0 := Stand.of_body Bd
  have e0 : s₁.heap = h0 := by rw [← hh, Bd.state]; rfl
  have N0 := Fr.nil n0
  have pre0 : ∀ t, Steps p.tables e below (s₁.setTop (mkF m 0 #[.val (.long q1), .second] [])) t → Steps p.tables e below (s₁.setTop (entryFrame m #[(.long q1)] 2)) t := fun t k => castTop (ef_3 m q1) k
  have pre101 : ∀ t, Steps p.tables e below (s₁.setTop (mkF m 3 #[.val (.long q1), .second] [(.int (lcmpW q1 (0 : Int64)))])) t → Steps p.tables e below (s₁.setTop (entryFrame m #[(.long q1)] 2)) t := fun t9 k9 => pre0 t9 (by
      show Steps p.tables e below (s₁.setTop (mkF m 0 #[.val (.long q1), .second] [])) _
      refine XS.lloadN X0.here hx rfl (hb hby d3_0) rfl ?_
      show Steps p.tables e below (s₁.setTop (mkF m 1 #[.val (.long q1), .second] [(.long q1)])) _
      refine XS.lconst X0.here hx rfl (hb hby d3_1) ?_
      show Steps p.tables e below (s₁.setTop (mkF m 2 #[.val (.long q1), .second] [(.long (0 : Int64)), (.long q1)])) _
      refine XS.lcmp X0.here hx rfl (hb hby d3_2) rfl ?_
      exact k9)
  by_cases b102 : q1.toInt < (0 : Int)
  · have pre103 : ∀ t, Steps p.tables e below (s₁.setTop (mkF m 12 #[.val (.long q1), .second] [(.long (-q1))])) t → Steps p.tables e below (s₁.setTop (entryFrame m #[(.long q1)] 2)) t := fun t9 k9 => pre101 t9 (by
        show Steps p.tables e below (s₁.setTop (mkF m 3 #[.val (.long q1), .second] [(.int (lcmpW q1 (0 : Int64)))])) _
        refine XS.ifNo X0.here hx rfl (hb hby d3_3) rfl (own_Lge_f (a := q1.toInt) (b := (0 : Int)) rfl (by decide) b102) ?_
        show Steps p.tables e below (s₁.setTop (mkF m 6 #[.val (.long q1), .second] [])) _
        refine XS.lloadN X0.here hx rfl (hb hby d3_6) rfl ?_
        show Steps p.tables e below (s₁.setTop (mkF m 7 #[.val (.long q1), .second] [(.long q1)])) _
        refine XS.lneg X0.here hx rfl (hb hby d3_7) rfl ?_
        show Steps p.tables e below (s₁.setTop (mkF m 8 #[.val (.long q1), .second] [(.long (-q1))])) _
        refine XS.goto X0.here hx rfl (pc0 := 8) (pc' := 12) rfl (hb hby d3_8) (by decide) (by decide) ?_
        exact k9)
    have hv : own_v3 q1 = (-q1) := by unfold own_v3; exact if_pos (by omega)
    obtain ⟨fs, hr, hrun, hended, hW, hsame⟩ := X0.leave (v := some (.long (-q1))) (fun h => by rw [Bd.returns] at h; cases h)
    refine ⟨_, _, pre103 _ ?_, hrun, hended, _, _, rfl, ?_, ⟨_, rfl⟩, hW, hsame.mono (by decide) (by decide)⟩
    · show Steps p.tables e below (s₁.setTop (mkF m 12 #[.val (.long q1), .second] [(.long (-q1))])) _
      jvm_step X0.here [X0.here.top, hx, (hb hby d3_12), X0.method', Bd.returns, narrow]
      first | (intro acts; rw [hr _ acts rfl rfl rfl]) | rw [hr _ _ rfl rfl rfl]
      exact Steps.refl _
    · show Q3 Z q1 h0 n0 _ s₁.heap _
      rw [e0]
      exact ⟨by rw [hv], N0, rfl⟩
  · have pre104 : ∀ t, Steps p.tables e below (s₁.setTop (mkF m 12 #[.val (.long q1), .second] [(.long q1)])) t → Steps p.tables e below (s₁.setTop (entryFrame m #[(.long q1)] 2)) t := fun t9 k9 => pre101 t9 (by
        show Steps p.tables e below (s₁.setTop (mkF m 3 #[.val (.long q1), .second] [(.int (lcmpW q1 (0 : Int64)))])) _
        refine XS.ifYes X0.here hx rfl (pc0 := 3) (pc' := 11) rfl (hb hby d3_3) rfl (own_Lge_t (a := q1.toInt) (b := (0 : Int)) rfl (by decide) b102) (by decide) (by decide) ?_
        show Steps p.tables e below (s₁.setTop (mkF m 11 #[.val (.long q1), .second] [])) _
        refine XS.lloadN X0.here hx rfl (hb hby d3_11) rfl ?_
        exact k9)
    have hv : own_v3 q1 = q1 := by unfold own_v3; exact if_neg (by omega)
    obtain ⟨fs, hr, hrun, hended, hW, hsame⟩ := X0.leave (v := some (.long q1)) (fun h => by rw [Bd.returns] at h; cases h)
    refine ⟨_, _, pre104 _ ?_, hrun, hended, _, _, rfl, ?_, ⟨_, rfl⟩, hW, hsame.mono (by decide) (by decide)⟩
    · show Steps p.tables e below (s₁.setTop (mkF m 12 #[.val (.long q1), .second] [(.long q1)])) _
      jvm_step X0.here [X0.here.top, hx, (hb hby d3_12), X0.method', Bd.returns, narrow]
      first | (intro acts; rw [hr _ acts rfl rfl rfl]) | rw [hr _ _ rfl rfl rfl]
      exact Steps.refl _
    · show Q3 Z q1 h0 n0 _ s₁.heap _
      rw [e0]
      exact ⟨by rw [hv], N0, rfl⟩
theorem d1_0 : decode prog_22_method_3_code 0 = .ok (.lload_n 0, 1) := by decide +kernel
theorem d1_1 : decode prog_22_method_3_code 1 = .ok (.ldc2_w 48, 3) := by decide +kernel
theorem d1_4 : decode prog_22_method_3_code 4 = .ok (.lcmp, 1) := by decide +kernel
theorem d1_5 : decode prog_22_method_3_code 5 = .ok (.ifCond .lt 15, 3) := by decide +kernel
theorem d1_8 : decode prog_22_method_3_code 8 = .ok (.lload_n 0, 1) := by decide +kernel
theorem d1_9 : decode prog_22_method_3_code 9 = .ok (.ldc2_w 50, 3) := by decide +kernel
theorem d1_12 : decode prog_22_method_3_code 12 = .ok (.lcmp, 1) := by decide +kernel
theorem d1_13 : decode prog_22_method_3_code 13 = .ok (.ifCond .gt 7, 3) := by decide +kernel
theorem d1_16 : decode prog_22_method_3_code 16 = .ok (.iconst 1, 1) := by decide +kernel
theorem d1_17 : decode prog_22_method_3_code 17 = .ok (.goto 4, 3) := by decide +kernel
theorem d1_20 : decode prog_22_method_3_code 20 = .ok (.iconst 0, 1) := by decide +kernel
theorem d1_21 : decode prog_22_method_3_code 21 = .ok (.ireturn, 1) := by decide +kernel
theorem pn_1 : plainName "com/example/towerpath/towerpath/io/FieldValues" = true := by first | (simp [plainName, overriddenIn]; done) | decide +kernel
theorem ef_1 (m : MethodId) (q1 : Int64) : entryFrame m #[(.long q1)] 2 = mkF m 0 #[.val (.long q1), .second] [] := by first | (simp [entryFrame, mkF, argsToLocals, Value.category]; done) | rfl
def Q1 (Z : State) (q1 : Int64) (h0 : Heap) (n0 : Nat) (v : Option Value) (h : Heap) (L : List Loc) : Prop := v = some (.int (own_v1 q1)) ∧ Fr n0 L ∧ h = h0
set_option maxRecDepth 65536 in
set_option maxHeartbeats 40000000 in
theorem rm1 (l : Launch) (Z : State) (a0 : Array Value) (hw : ∀ d ∈ tables_1, d.before a0 Z = true) (ws : List Jvm.Cond) (q1 : Int64) (h0 : Heap) (n0 : Nat) (Z0 : n0 ≤ h0.size)  :
    MetFree l (⟨"com/example/towerpath/towerpath/io/FieldValues", "isTime", "(J)Z"⟩ : MethodName) (head1 (Jvm.Cond.code (⟨"com/example/towerpath/towerpath/io/FieldValues", "isTime", "(J)Z"⟩ : MethodName) prog_22_method_3_code 2 (some .boolean) :: ws) ({ frames := 0, cells := 0, slots := 0, locals := 0 } : Room)) (fun a U => a = #[(.long q1)] ∧ Z.Warmed39 U.vm ∧ U.heap = h0) (fun _ _ _ _ _ => True) (fun _ U o U' => ∃ v L, o = .returned v ∧ Q1 Z q1 h0 n0 v U'.heap L ∧ FrameEnd U o U' L ({ frames := 0, cells := 0, slots := 0, locals := 0 } : Room).cells ({ frames := 0, cells := 0, slots := 0, locals := 0 } : Room).slots) := by
  refine MetFree.of_bodySF (plainFor_of_name pn_1) hisR ?_
  intro p e s m args below meth c s₁ Bd hml0 hP hK
  obtain ⟨rfl, hZ, hh⟩ := hP
  have hx := Bd.exec
  have hby := Bd.bytes
  have hml : c.maxLocals = 2 := hml0
  have hown : s.vm.findClass "com/example/towerpath/towerpath/io/FieldValues" = some m.cls := findClass_of_methodNamed Bd.named
  have hnm := (name_of_methodNamed Bd.named Bd.method).1
  have X0 : Stand p l e ({ frames := 0, cells := 0, slots := 0, locals := 0 } : Room) s m #[(.long q1)] below meth c s₁ [] 0 0 := Stand.of_body Bd
  have e0 : s₁.heap = h0 := by rw [← hh, Bd.state]; rfl
  have N0 := Fr.nil n0
  have pre0 : ∀ t, Steps p.tables e below (s₁.setTop (mkF m 0 #[.val (.long q1), .second] [])) t → Steps p.tables e below (s₁.setTop (entryFrame m #[(.long q1)] 2)) t := fun t k => castTop (ef_1 m q1) k
  have pre101 : ∀ t, Steps p.tables e below (s₁.setTop (mkF m 5 #[.val (.long q1), .second] [(.int (lcmpW q1 (-999999999999999 : Int64)))])) t → Steps p.tables e below (s₁.setTop (entryFrame m #[(.long q1)] 2)) t := fun t9 k9 => pre0 t9 (by
      show Steps p.tables e below (s₁.setTop (mkF m 0 #[.val (.long q1), .second] [])) _
      refine XS.lloadN X0.here hx rfl (hb hby d1_0) rfl ?_
      show Steps p.tables e below (s₁.setTop (mkF m 1 #[.val (.long q1), .second] [(.long q1)])) _
      refine X0.ldc2Long hx hown (mvT hZ (hw _ (List.mem_of_getElem? (i := 5) rfl))) (g := (mkF m 1 #[.val (.long q1), .second] [(.long q1)])) rfl (hb hby d1_1) _ ?_
      show Steps p.tables e below (s₁.setTop (mkF m 4 #[.val (.long q1), .second] [(.long (-999999999999999 : Int64)), (.long q1)])) _
      refine XS.lcmp X0.here hx rfl (hb hby d1_4) rfl ?_
      exact k9)
  by_cases b102 : q1.toInt < (-999999999999999 : Int)
  · have pre103 : ∀ t, Steps p.tables e below (s₁.setTop (mkF m 21 #[.val (.long q1), .second] [(.int (0 : Int32))])) t → Steps p.tables e below (s₁.setTop (entryFrame m #[(.long q1)] 2)) t := fun t9 k9 => pre101 t9 (by
        show Steps p.tables e below (s₁.setTop (mkF m 5 #[.val (.long q1), .second] [(.int (lcmpW q1 (-999999999999999 : Int64)))])) _
        refine XS.ifYes X0.here hx rfl (pc0 := 5) (pc' := 20) rfl (hb hby d1_5) rfl (own_Llt_t (a := q1.toInt) (b := (-999999999999999 : Int)) rfl (by decide) b102) (by decide) (by decide) ?_
        show Steps p.tables e below (s₁.setTop (mkF m 20 #[.val (.long q1), .second] [])) _
        refine XS.iconst X0.here hx rfl (hb hby d1_20) ?_
        exact k9)
    have hv : own_v1 q1 = (0 : Int32) := by unfold own_v1; exact if_neg (by omega)
    obtain ⟨fs, hr, hrun, hended, hW, hsame⟩ := X0.leave (v := some (.int (0 : Int32))) (fun h => by rw [Bd.returns] at h; cases h)
    refine ⟨_, _, pre103 _ ?_, hrun, hended, _, _, rfl, ?_, ⟨_, rfl⟩, hW, hsame.mono (by decide) (by decide)⟩
    · show Steps p.tables e below (s₁.setTop (mkF m 21 #[.val (.long q1), .second] [(.int (0 : Int32))])) _
      exact retN X0 hx (t := .boolean) Bd.returns (by simp) (hb hby d1_21) hr
    · show Q1 Z q1 h0 n0 _ s₁.heap _
      rw [e0]
      exact ⟨by rw [hv], N0, rfl⟩
  · have pre104 : ∀ t, Steps p.tables e below (s₁.setTop (mkF m 13 #[.val (.long q1), .second] [(.int (lcmpW q1 (999999999999999 : Int64)))])) t → Steps p.tables e below (s₁.setTop (entryFrame m #[(.long q1)] 2)) t := fun t9 k9 => pre101 t9 (by
        show Steps p.tables e below (s₁.setTop (mkF m 5 #[.val (.long q1), .second] [(.int (lcmpW q1 (-999999999999999 : Int64)))])) _
        refine XS.ifNo X0.here hx rfl (hb hby d1_5) rfl (own_Llt_f (a := q1.toInt) (b := (-999999999999999 : Int)) rfl (by decide) b102) ?_
        show Steps p.tables e below (s₁.setTop (mkF m 8 #[.val (.long q1), .second] [])) _
        refine XS.lloadN X0.here hx rfl (hb hby d1_8) rfl ?_
        show Steps p.tables e below (s₁.setTop (mkF m 9 #[.val (.long q1), .second] [(.long q1)])) _
        refine X0.ldc2Long hx hown (mvT hZ (hw _ (List.mem_of_getElem? (i := 6) rfl))) (g := (mkF m 9 #[.val (.long q1), .second] [(.long q1)])) rfl (hb hby d1_9) _ ?_
        show Steps p.tables e below (s₁.setTop (mkF m 12 #[.val (.long q1), .second] [(.long (999999999999999 : Int64)), (.long q1)])) _
        refine XS.lcmp X0.here hx rfl (hb hby d1_12) rfl ?_
        exact k9)
    by_cases b105 : (999999999999999 : Int) < q1.toInt
    · have pre106 : ∀ t, Steps p.tables e below (s₁.setTop (mkF m 21 #[.val (.long q1), .second] [(.int (0 : Int32))])) t → Steps p.tables e below (s₁.setTop (entryFrame m #[(.long q1)] 2)) t := fun t9 k9 => pre104 t9 (by
          show Steps p.tables e below (s₁.setTop (mkF m 13 #[.val (.long q1), .second] [(.int (lcmpW q1 (999999999999999 : Int64)))])) _
          refine XS.ifYes X0.here hx rfl (pc0 := 13) (pc' := 20) rfl (hb hby d1_13) rfl (own_Lgt_t (a := q1.toInt) (b := (999999999999999 : Int)) rfl (by decide) b105) (by decide) (by decide) ?_
          show Steps p.tables e below (s₁.setTop (mkF m 20 #[.val (.long q1), .second] [])) _
          refine XS.iconst X0.here hx rfl (hb hby d1_20) ?_
          exact k9)
      have hv : own_v1 q1 = (0 : Int32) := by unfold own_v1; exact if_neg (by omega)
      obtain ⟨fs, hr, hrun, hended, hW, hsame⟩ := X0.leave (v := some (.int (0 : Int32))) (fun h => by rw [Bd.returns] at h; cases h)
      refine ⟨_, _, pre106 _ ?_, hrun, hended, _, _, rfl, ?_, ⟨_, rfl⟩, hW, hsame.mono (by decide) (by decide)⟩
      · show Steps p.tables e below (s₁.setTop (mkF m 21 #[.val (.long q1), .second] [(.int (0 : Int32))])) _
        exact retN X0 hx (t := .boolean) Bd.returns (by simp) (hb hby d1_21) hr
      · show Q1 Z q1 h0 n0 _ s₁.heap _
        rw [e0]
        exact ⟨by rw [hv], N0, rfl⟩
    · have pre107 : ∀ t, Steps p.tables e below (s₁.setTop (mkF m 21 #[.val (.long q1), .second] [(.int (1 : Int32))])) t → Steps p.tables e below (s₁.setTop (entryFrame m #[(.long q1)] 2)) t := fun t9 k9 => pre104 t9 (by
          show Steps p.tables e below (s₁.setTop (mkF m 13 #[.val (.long q1), .second] [(.int (lcmpW q1 (999999999999999 : Int64)))])) _
          refine XS.ifNo X0.here hx rfl (hb hby d1_13) rfl (own_Lgt_f (a := q1.toInt) (b := (999999999999999 : Int)) rfl (by decide) b105) ?_
          show Steps p.tables e below (s₁.setTop (mkF m 16 #[.val (.long q1), .second] [])) _
          refine XS.iconst X0.here hx rfl (hb hby d1_16) ?_
          show Steps p.tables e below (s₁.setTop (mkF m 17 #[.val (.long q1), .second] [(.int (1 : Int32))])) _
          refine XS.goto X0.here hx rfl (pc0 := 17) (pc' := 21) rfl (hb hby d1_17) (by decide) (by decide) ?_
          exact k9)
      have hv : own_v1 q1 = (1 : Int32) := by unfold own_v1; exact if_pos (by omega)
      obtain ⟨fs, hr, hrun, hended, hW, hsame⟩ := X0.leave (v := some (.int (1 : Int32))) (fun h => by rw [Bd.returns] at h; cases h)
      refine ⟨_, _, pre107 _ ?_, hrun, hended, _, _, rfl, ?_, ⟨_, rfl⟩, hW, hsame.mono (by decide) (by decide)⟩
      · show Steps p.tables e below (s₁.setTop (mkF m 21 #[.val (.long q1), .second] [(.int (1 : Int32))])) _
        exact retN X0 hx (t := .boolean) Bd.returns (by simp) (hb hby d1_21) hr
      · show Q1 Z q1 h0 n0 _ s₁.heap _
        rw [e0]
        exact ⟨by rw [hv], N0, rfl⟩
theorem d2_0 : decode method_2_code 0 = .ok (.lload_n 0, 1) := by decide +kernel
theorem d2_1 : decode method_2_code 1 = .ok (.ldc2_w 9, 3) := by decide +kernel
theorem d2_4 : decode method_2_code 4 = .ok (.lcmp, 1) := by decide +kernel
theorem d2_5 : decode method_2_code 5 = .ok (.ifCond .ne 5, 3) := by decide +kernel
theorem d2_8 : decode method_2_code 8 = .ok (.iconst 0, 1) := by decide +kernel
theorem d2_9 : decode method_2_code 9 = .ok (.ireturn, 1) := by decide +kernel
theorem d2_10 : decode method_2_code 10 = .ok (.lload_n 0, 1) := by decide +kernel
theorem d2_11 : decode method_2_code 11 = .ok (.invokestatic 11, 3) := by decide +kernel
theorem d2_14 : decode method_2_code 14 = .ok (.ldc2_w 17, 3) := by decide +kernel
theorem d2_17 : decode method_2_code 17 = .ok (.lcmp, 1) := by decide +kernel
theorem d2_18 : decode method_2_code 18 = .ok (.ifCond .gt 7, 3) := by decide +kernel
theorem d2_21 : decode method_2_code 21 = .ok (.iconst 1, 1) := by decide +kernel
theorem d2_22 : decode method_2_code 22 = .ok (.goto 4, 3) := by decide +kernel
theorem d2_25 : decode method_2_code 25 = .ok (.iconst 0, 1) := by decide +kernel
theorem d2_26 : decode method_2_code 26 = .ok (.ireturn, 1) := by decide +kernel
theorem pd_2_0 : parseMethodDescriptor "(J)J" = some ⟨[.long], some .long⟩ := by decide +kernel
theorem pn_2 : plainName "com/example/towerpath/towerpath/io/FieldValuesIsTimePinLaw" = true := by first | (simp [plainName, overriddenIn]; done) | decide +kernel
theorem ef_2 (m : MethodId) (q1 : Int64) : entryFrame m #[(.long q1)] 2 = mkF m 0 #[.val (.long q1), .second] [] := by first | (simp [entryFrame, mkF, argsToLocals, Value.category]; done) | rfl
def Q2 (Z : State) (q1 : Int64) (h0 : Heap) (n0 : Nat) (v : Option Value) (h : Heap) (L : List Loc) : Prop := v = some (.int (own_v2 q1)) ∧ Fr n0 L ∧ h = h0
set_option maxRecDepth 65536 in
set_option maxHeartbeats 40000000 in
theorem rm2 (l : Launch) (Z : State) (a0 : Array Value) (hw : ∀ d ∈ tables_1, d.before a0 Z = true) (ws : List Jvm.Cond) (q1 : Int64) (h0 : Heap) (n0 : Nat) (Z0 : n0 ≤ h0.size)  :
    MetFree l (⟨"com/example/towerpath/towerpath/io/FieldValuesIsTimePinLaw", "ref", "(J)Z"⟩ : MethodName) (head1 (Jvm.Cond.code (⟨"com/example/towerpath/towerpath/io/FieldValuesIsTimePinLaw", "ref", "(J)Z"⟩ : MethodName) method_2_code 2 (some .boolean) :: ws) ({ frames := 1, cells := 0, slots := 0, locals := 13 } : Room)) (fun a U => a = #[(.long q1)] ∧ Z.Warmed39 U.vm ∧ U.heap = h0) (fun _ _ _ _ _ => True) (fun _ U o U' => ∃ v L, o = .returned v ∧ Q2 Z q1 h0 n0 v U'.heap L ∧ FrameEnd U o U' L ({ frames := 1, cells := 0, slots := 0, locals := 13 } : Room).cells ({ frames := 1, cells := 0, slots := 0, locals := 13 } : Room).slots) := by
  refine MetFree.of_bodySF (plainFor_of_name pn_2) hisR ?_
  intro p e s m args below meth c s₁ Bd hml0 hP hK
  obtain ⟨rfl, hZ, hh⟩ := hP
  have hx := Bd.exec
  have hby := Bd.bytes
  have hml : c.maxLocals = 2 := hml0
  have hown : s.vm.findClass "com/example/towerpath/towerpath/io/FieldValuesIsTimePinLaw" = some m.cls := findClass_of_methodNamed Bd.named
  have hnm := (name_of_methodNamed Bd.named Bd.method).1
  have X0 : Stand p l e ({ frames := 1, cells := 0, slots := 0, locals := 13 } : Room) s m #[(.long q1)] below meth c s₁ [] 0 0 := Stand.of_body Bd
  have e0 : s₁.heap = h0 := by rw [← hh, Bd.state]; rfl
  have N0 := Fr.nil n0
  have pre0 : ∀ t, Steps p.tables e below (s₁.setTop (mkF m 0 #[.val (.long q1), .second] [])) t → Steps p.tables e below (s₁.setTop (entryFrame m #[(.long q1)] 2)) t := fun t k => castTop (ef_2 m q1) k
  have pre101 : ∀ t, Steps p.tables e below (s₁.setTop (mkF m 5 #[.val (.long q1), .second] [(.int (lcmpW q1 (-9223372036854775808 : Int64)))])) t → Steps p.tables e below (s₁.setTop (entryFrame m #[(.long q1)] 2)) t := fun t9 k9 => pre0 t9 (by
      show Steps p.tables e below (s₁.setTop (mkF m 0 #[.val (.long q1), .second] [])) _
      refine XS.lloadN X0.here hx rfl (hb hby d2_0) rfl ?_
      show Steps p.tables e below (s₁.setTop (mkF m 1 #[.val (.long q1), .second] [(.long q1)])) _
      refine X0.ldc2Long hx hown (mvT hZ (hw _ (List.mem_of_getElem? (i := 11) rfl))) (g := (mkF m 1 #[.val (.long q1), .second] [(.long q1)])) rfl (hb hby d2_1) _ ?_
      show Steps p.tables e below (s₁.setTop (mkF m 4 #[.val (.long q1), .second] [(.long (-9223372036854775808 : Int64)), (.long q1)])) _
      refine XS.lcmp X0.here hx rfl (hb hby d2_4) rfl ?_
      exact k9)
  by_cases b102 : q1.toInt = (-9223372036854775808 : Int)
  · have pre103 : ∀ t, Steps p.tables e below (s₁.setTop (mkF m 9 #[.val (.long q1), .second] [(.int (0 : Int32))])) t → Steps p.tables e below (s₁.setTop (entryFrame m #[(.long q1)] 2)) t := fun t9 k9 => pre101 t9 (by
        show Steps p.tables e below (s₁.setTop (mkF m 5 #[.val (.long q1), .second] [(.int (lcmpW q1 (-9223372036854775808 : Int64)))])) _
        refine XS.ifNo X0.here hx rfl (hb hby d2_5) rfl (own_Lne_f (a := q1.toInt) (b := (-9223372036854775808 : Int)) rfl (by decide) b102) ?_
        show Steps p.tables e below (s₁.setTop (mkF m 8 #[.val (.long q1), .second] [])) _
        refine XS.iconst X0.here hx rfl (hb hby d2_8) ?_
        exact k9)
    have hv : own_v2 q1 = (0 : Int32) := by unfold own_v2; exact if_neg (by omega)
    obtain ⟨fs, hr, hrun, hended, hW, hsame⟩ := X0.leave (v := some (.int (0 : Int32))) (fun h => by rw [Bd.returns] at h; cases h)
    refine ⟨_, _, pre103 _ ?_, hrun, hended, _, _, rfl, ?_, ⟨_, rfl⟩, hW, hsame.mono (by decide) (by decide)⟩
    · show Steps p.tables e below (s₁.setTop (mkF m 9 #[.val (.long q1), .second] [(.int (0 : Int32))])) _
      exact retN X0 hx (t := .boolean) Bd.returns (by simp) (hb hby d2_9) hr
    · show Q2 Z q1 h0 n0 _ s₁.heap _
      rw [e0]
      exact ⟨by rw [hv], N0, rfl⟩
  · obtain ⟨_, _, ⟨T104, L104, k104, n104⟩, -, X104, ⟨Lc104, hQ104, l104, y104, z104⟩, st104⟩ := Jvm.LawKit.callS X0 hx (y := (⟨"java/lang/Math", "abs", "(J)J"⟩ : MethodName)) hown (mvT hZ (hw _ (List.mem_of_getElem? (i := 12) rfl))) (mvT hZ (hw _ (List.mem_of_getElem? (i := 13) rfl))) (mvT hZ (hw _ (List.mem_of_getElem? (i := 14) rfl))) (mvT hZ (hw _ (List.mem_of_getElem? (i := 15) rfl))) (by decide) (backOf (W := 0) (rm3 l Z a0 hw [] q1 h0 n0 Z0 ) hZ (hw _ (List.mem_of_getElem? (i := 15) rfl)) (hw _ (List.mem_of_getElem? (i := 14) rfl)) (by decide) (by decide)) (g := (mkF m 11 #[.val (.long q1), .second] [(.long q1)])) rfl (by rw [hml]; rfl) (argsL := [(.long q1)]) (rest := []) (lenOf pd_2_0 rfl) rfl (by show 2 * 0 + _ ≤ _; exact Nat.le_of_eq rfl) (hb hby d2_11) (fun _ _ => ⟨rfl, e0, (by decide : 0 + 0 ≤ _), (by decide : 0 + 0 ≤ _)⟩)
    dsimp only [Pt.U, Pt.locs, Pt.cells, Pt.slots] at X104 l104 y104 z104 st104 hQ104
    subst l104 y104 z104
    obtain ⟨hv104, N104q, e104⟩ := hQ104
    subst hv104
    have N104 := Fr.app N0 N104q
    have pre105 : ∀ t, Steps p.tables e below (T104.setTop (mkF m 18 #[.val (.long q1), .second] [(.int (lcmpW (own_v3 q1) (999999999999999 : Int64)))])) t → Steps p.tables e below (s₁.setTop (entryFrame m #[(.long q1)] 2)) t := fun t9 k9 => pre101 t9 (by
        show Steps p.tables e below (s₁.setTop (mkF m 5 #[.val (.long q1), .second] [(.int (lcmpW q1 (-9223372036854775808 : Int64)))])) _
        refine XS.ifYes X0.here hx rfl (pc0 := 5) (pc' := 10) rfl (hb hby d2_5) rfl (own_Lne_t (a := q1.toInt) (b := (-9223372036854775808 : Int)) rfl (by decide) b102) (by decide) (by decide) ?_
        show Steps p.tables e below (s₁.setTop (mkF m 10 #[.val (.long q1), .second] [])) _
        refine XS.lloadN X0.here hx rfl (hb hby d2_10) rfl ?_
        show Steps p.tables e below (s₁.setTop (mkF m 11 #[.val (.long q1), .second] [(.long q1)])) _
        refine st104 _ ?_
        show Steps p.tables e below (T104.setTop (mkF m 14 #[.val (.long q1), .second] [(.long (own_v3 q1))])) _
        refine X104.ldc2Long hx hown (mvT hZ (hw _ (List.mem_of_getElem? (i := 0) rfl))) (g := (mkF m 14 #[.val (.long q1), .second] [(.long (own_v3 q1))])) rfl (hb hby d2_14) _ ?_
        show Steps p.tables e below (T104.setTop (mkF m 17 #[.val (.long q1), .second] [(.long (999999999999999 : Int64)), (.long (own_v3 q1))])) _
        refine XS.lcmp X104.here hx rfl (hb hby d2_17) rfl ?_
        exact k9)
    by_cases b106 : (999999999999999 : Int) < (own_v3 q1).toInt
    · have pre107 : ∀ t, Steps p.tables e below (T104.setTop (mkF m 26 #[.val (.long q1), .second] [(.int (0 : Int32))])) t → Steps p.tables e below (s₁.setTop (entryFrame m #[(.long q1)] 2)) t := fun t9 k9 => pre105 t9 (by
          show Steps p.tables e below (T104.setTop (mkF m 18 #[.val (.long q1), .second] [(.int (lcmpW (own_v3 q1) (999999999999999 : Int64)))])) _
          refine XS.ifYes X104.here hx rfl (pc0 := 18) (pc' := 25) rfl (hb hby d2_18) rfl (own_Lgt_t (a := (own_v3 q1).toInt) (b := (999999999999999 : Int)) rfl (by decide) b106) (by decide) (by decide) ?_
          show Steps p.tables e below (T104.setTop (mkF m 25 #[.val (.long q1), .second] [])) _
          refine XS.iconst X104.here hx rfl (hb hby d2_25) ?_
          exact k9)
      have hv : own_v2 q1 = (0 : Int32) := by unfold own_v2; exact if_neg (by omega)
      obtain ⟨fs, hr, hrun, hended, hW, hsame⟩ := X104.leave (v := some (.int (0 : Int32))) (fun h => by rw [Bd.returns] at h; cases h)
      refine ⟨_, _, pre107 _ ?_, hrun, hended, _, _, rfl, ?_, ⟨_, rfl⟩, hW, hsame.mono (by decide) (by decide)⟩
      · show Steps p.tables e below (T104.setTop (mkF m 26 #[.val (.long q1), .second] [(.int (0 : Int32))])) _
        exact retN X104 hx (t := .boolean) Bd.returns (by simp) (hb hby d2_26) hr
      · show Q2 Z q1 h0 n0 _ T104.heap _
        rw [e104]
        exact ⟨by rw [hv], N104, rfl⟩
    · have pre108 : ∀ t, Steps p.tables e below (T104.setTop (mkF m 26 #[.val (.long q1), .second] [(.int (1 : Int32))])) t → Steps p.tables e below (s₁.setTop (entryFrame m #[(.long q1)] 2)) t := fun t9 k9 => pre105 t9 (by
          show Steps p.tables e below (T104.setTop (mkF m 18 #[.val (.long q1), .second] [(.int (lcmpW (own_v3 q1) (999999999999999 : Int64)))])) _
          refine XS.ifNo X104.here hx rfl (hb hby d2_18) rfl (own_Lgt_f (a := (own_v3 q1).toInt) (b := (999999999999999 : Int)) rfl (by decide) b106) ?_
          show Steps p.tables e below (T104.setTop (mkF m 21 #[.val (.long q1), .second] [])) _
          refine XS.iconst X104.here hx rfl (hb hby d2_21) ?_
          show Steps p.tables e below (T104.setTop (mkF m 22 #[.val (.long q1), .second] [(.int (1 : Int32))])) _
          refine XS.goto X104.here hx rfl (pc0 := 22) (pc' := 26) rfl (hb hby d2_22) (by decide) (by decide) ?_
          exact k9)
      have hv : own_v2 q1 = (1 : Int32) := by unfold own_v2; exact if_pos (by omega)
      obtain ⟨fs, hr, hrun, hended, hW, hsame⟩ := X104.leave (v := some (.int (1 : Int32))) (fun h => by rw [Bd.returns] at h; cases h)
      refine ⟨_, _, pre108 _ ?_, hrun, hended, _, _, rfl, ?_, ⟨_, rfl⟩, hW, hsame.mono (by decide) (by decide)⟩
      · show Steps p.tables e below (T104.setTop (mkF m 26 #[.val (.long q1), .second] [(.int (1 : Int32))])) _
        exact retN X104 hx (t := .boolean) Bd.returns (by simp) (hb hby d2_26) hr
      · show Q2 Z q1 h0 n0 _ T104.heap _
        rw [e104]
        exact ⟨by rw [hv], N104, rfl⟩
theorem pd_0_0 : parseMethodDescriptor "(J)Z" = some ⟨[.long], some .boolean⟩ := by decide +kernel
theorem pn_0 : plainName "com/example/towerpath/towerpath/io/FieldValuesIsTimePinLaw" = true := by first | (simp [plainName, overriddenIn]; done) | decide +kernel
theorem ef_0 (m : MethodId) (q1 : Int64) (p2 : Int32) : entryFrame m #[(.long q1), (.int p2)] maxLocals = mkF m 0 #[.val (.long q1), .second, .val (.int p2), .unset, .unset, .unset, .unset, .unset, .unset, .unset, .unset, .unset, .unset, .unset] [] := by first | (simp [entryFrame, mkF, argsToLocals, Value.category, maxLocals]; done) | rfl
def Q0 (Z : State) (q1 : Int64) (p2 : Int32) (h0 : Heap) (n0 : Nat) (v : Option Value) (h : Heap) (L : List Loc) : Prop := v = some (.int 1) ∧ Fr n0 L
set_option maxRecDepth 65536 in
set_option maxHeartbeats 40000000 in
theorem rm0 (l : Launch) (Z : State) (a0 : Array Value) (hw : ∀ d ∈ tables_1, d.before a0 Z = true) (ws : List Jvm.Cond) (q1 : Int64) (p2 : Int32) (h0 : Heap) (n0 : Nat) (Z0 : n0 ≤ h0.size)  :
    MetFree l x (head1 (Jvm.Cond.code x code maxLocals ret :: ws) room_1) (fun a U => a = #[(.long q1), (.int p2)] ∧ Z.Warmed39 U.vm ∧ U.heap = h0) (fun _ _ _ _ _ => True) (fun _ U o U' => ∃ v L, o = .returned v ∧ Q0 Z q1 p2 h0 n0 v U'.heap L ∧ FrameEnd U o U' L room_1.cells room_1.slots) := by
  refine MetFree.of_bodySF (plainFor_of_name pn_0) hisR ?_
  intro p e s m args below meth c s₁ Bd hml0 hP hK
  obtain ⟨rfl, hZ, hh⟩ := hP
  have hx := Bd.exec
  have hby := Bd.bytes
  have hml : c.maxLocals = 14 := hml0
  have hown : s.vm.findClass "com/example/towerpath/towerpath/io/FieldValuesIsTimePinLaw" = some m.cls := findClass_of_methodNamed Bd.named
  have hnm := (name_of_methodNamed Bd.named Bd.method).1
  have X0 : Stand p l e room_1 s m #[(.long q1), (.int p2)] below meth c s₁ [] 0 0 := Stand.of_body Bd
  have e0 : s₁.heap = h0 := by rw [← hh, Bd.state]; rfl
  have N0 := Fr.nil n0
  have pre0 : ∀ t, Steps p.tables e below (s₁.setTop (mkF m 0 #[.val (.long q1), .second, .val (.int p2), .unset, .unset, .unset, .unset, .unset, .unset, .unset, .unset, .unset, .unset, .unset] [])) t → Steps p.tables e below (s₁.setTop (entryFrame m #[(.long q1), (.int p2)] maxLocals)) t := fun t k => castTop (ef_0 m q1 p2) k
  obtain ⟨_, _, ⟨T101, L101, k101, n101⟩, -, X101, ⟨Lc101, hQ101, l101, y101, z101⟩, st101⟩ := Jvm.LawKit.callS X0 hx (y := (⟨"com/example/towerpath/towerpath/io/FieldValues", "isTime", "(J)Z"⟩ : MethodName)) hown (mvT hZ (hw _ (List.mem_of_getElem? (i := 1) rfl))) (mvT hZ (hw _ (List.mem_of_getElem? (i := 2) rfl))) (mvT hZ (hw _ (List.mem_of_getElem? (i := 3) rfl))) (mvT hZ (hw _ (List.mem_of_getElem? (i := 4) rfl))) (by decide) (backOf (W := 0) (rm1 l Z a0 hw [] q1 h0 n0 Z0 ) hZ (hw _ (List.mem_of_getElem? (i := 4) rfl)) (hw _ (List.mem_of_getElem? (i := 3) rfl)) (by decide) (by decide)) (g := (mkF m 24 #[.val (.long q1), .second, .val (.int p2), .val (.long (999999999999999 : Int64)), .second, .val (.long ((p2 % (5 : Int32)).toInt64)), .second, .val (.long ((999999999999999 : Int64) + ((p2 % (5 : Int32)).toInt64))), .second, .val (.long ((-(999999999999999 : Int64)) + ((p2 % (5 : Int32)).toInt64))), .second, .unset, .unset, .unset] [(.long q1)])) rfl (by rw [hml]; rfl) (argsL := [(.long q1)]) (rest := []) (lenOf pd_0_0 rfl) rfl (by show 2 * 0 + _ ≤ _; exact Nat.le_of_eq rfl) (hb hby at_24) (fun _ _ => ⟨rfl, e0, (by decide : 0 + 0 ≤ _), (by decide : 0 + 0 ≤ _)⟩)
  dsimp only [Pt.U, Pt.locs, Pt.cells, Pt.slots] at X101 l101 y101 z101 st101 hQ101
  subst l101 y101 z101
  obtain ⟨hv101, N101q, e101⟩ := hQ101
  subst hv101
  have N101 := Fr.app N0 N101q
  obtain ⟨_, _, ⟨T102, L102, k102, n102⟩, -, X102, ⟨Lc102, hQ102, l102, y102, z102⟩, st102⟩ := Jvm.LawKit.callS X101 hx (y := (⟨"com/example/towerpath/towerpath/io/FieldValuesIsTimePinLaw", "ref", "(J)Z"⟩ : MethodName)) hown (mvT hZ (hw _ (List.mem_of_getElem? (i := 7) rfl))) (mvT hZ (hw _ (List.mem_of_getElem? (i := 8) rfl))) (mvT hZ (hw _ (List.mem_of_getElem? (i := 9) rfl))) (mvT hZ (hw _ (List.mem_of_getElem? (i := 10) rfl))) (by decide) (backOf (W := 1) (rm2 l Z a0 hw [] q1 h0 n0 Z0 ) hZ (hw _ (List.mem_of_getElem? (i := 10) rfl)) (hw _ (List.mem_of_getElem? (i := 9) rfl)) (by decide) (by decide)) (g := (mkF m 28 #[.val (.long q1), .second, .val (.int p2), .val (.long (999999999999999 : Int64)), .second, .val (.long ((p2 % (5 : Int32)).toInt64)), .second, .val (.long ((999999999999999 : Int64) + ((p2 % (5 : Int32)).toInt64))), .second, .val (.long ((-(999999999999999 : Int64)) + ((p2 % (5 : Int32)).toInt64))), .second, .unset, .unset, .unset] [(.long q1), (.int (own_v1 q1))])) rfl (by rw [hml]; rfl) (argsL := [(.long q1)]) (rest := [(.int (own_v1 q1))]) (lenOf pd_0_0 rfl) rfl (by show 2 * 0 + _ ≤ _; exact Nat.le_of_eq rfl) (hb hby at_28) (fun _ _ => ⟨rfl, e101, (by decide : 0 + 0 ≤ _), (by decide : 0 + 0 ≤ _)⟩)
  dsimp only [Pt.U, Pt.locs, Pt.cells, Pt.slots] at X102 l102 y102 z102 st102 hQ102
  subst l102 y102 z102
  obtain ⟨hv102, N102q, e102⟩ := hQ102
  subst hv102
  have N102 := Fr.app N101 N102q
  have pre103 : ∀ t, Steps p.tables e below (T102.setTop (mkF m 31 #[.val (.long q1), .second, .val (.int p2), .val (.long (999999999999999 : Int64)), .second, .val (.long ((p2 % (5 : Int32)).toInt64)), .second, .val (.long ((999999999999999 : Int64) + ((p2 % (5 : Int32)).toInt64))), .second, .val (.long ((-(999999999999999 : Int64)) + ((p2 % (5 : Int32)).toInt64))), .second, .unset, .unset, .unset] [(.int (own_v2 q1)), (.int (own_v1 q1))])) t → Steps p.tables e below (s₁.setTop (entryFrame m #[(.long q1), (.int p2)] maxLocals)) t := fun t9 k9 => pre0 t9 (by
      show Steps p.tables e below (s₁.setTop (mkF m 0 #[.val (.long q1), .second, .val (.int p2), .unset, .unset, .unset, .unset, .unset, .unset, .unset, .unset, .unset, .unset, .unset] [])) _
      refine X0.ldc2Long hx hown (mvT hZ (hw _ (List.mem_of_getElem? (i := 0) rfl))) (g := (mkF m 0 #[.val (.long q1), .second, .val (.int p2), .unset, .unset, .unset, .unset, .unset, .unset, .unset, .unset, .unset, .unset, .unset] [])) rfl (hb hby at_0) _ ?_
      show Steps p.tables e below (s₁.setTop (mkF m 3 #[.val (.long q1), .second, .val (.int p2), .unset, .unset, .unset, .unset, .unset, .unset, .unset, .unset, .unset, .unset, .unset] [(.long (999999999999999 : Int64))])) _
      refine XS.lstoreN X0.here hx rfl (hb hby at_3) rfl (l' := #[.val (.long q1), .second, .val (.int p2), .val (.long (999999999999999 : Int64)), .second, .unset, .unset, .unset, .unset, .unset, .unset, .unset, .unset, .unset]) rfl ?_
      show Steps p.tables e below (s₁.setTop (mkF m 4 #[.val (.long q1), .second, .val (.int p2), .val (.long (999999999999999 : Int64)), .second, .unset, .unset, .unset, .unset, .unset, .unset, .unset, .unset, .unset] [])) _
      refine XS.iloadN X0.here hx rfl (hb hby at_4) rfl ?_
      show Steps p.tables e below (s₁.setTop (mkF m 5 #[.val (.long q1), .second, .val (.int p2), .val (.long (999999999999999 : Int64)), .second, .unset, .unset, .unset, .unset, .unset, .unset, .unset, .unset, .unset] [(.int p2)])) _
      refine XS.iconst X0.here hx rfl (hb hby at_5) ?_
      show Steps p.tables e below (s₁.setTop (mkF m 6 #[.val (.long q1), .second, .val (.int p2), .val (.long (999999999999999 : Int64)), .second, .unset, .unset, .unset, .unset, .unset, .unset, .unset, .unset, .unset] [(.int (5 : Int32)), (.int p2)])) _
      refine iremM X0 hx rfl (hb hby at_6) rfl (by decide) ?_
      show Steps p.tables e below (s₁.setTop (mkF m 7 #[.val (.long q1), .second, .val (.int p2), .val (.long (999999999999999 : Int64)), .second, .unset, .unset, .unset, .unset, .unset, .unset, .unset, .unset, .unset] [(.int (p2 % (5 : Int32)))])) _
      refine XS.i2l X0.here hx rfl (hb hby at_7) rfl ?_
      show Steps p.tables e below (s₁.setTop (mkF m 8 #[.val (.long q1), .second, .val (.int p2), .val (.long (999999999999999 : Int64)), .second, .unset, .unset, .unset, .unset, .unset, .unset, .unset, .unset, .unset] [(.long ((p2 % (5 : Int32)).toInt64))])) _
      refine XS.lstore X0.here hx rfl (hb hby at_8) rfl (l' := #[.val (.long q1), .second, .val (.int p2), .val (.long (999999999999999 : Int64)), .second, .val (.long ((p2 % (5 : Int32)).toInt64)), .second, .unset, .unset, .unset, .unset, .unset, .unset, .unset]) rfl ?_
      show Steps p.tables e below (s₁.setTop (mkF m 10 #[.val (.long q1), .second, .val (.int p2), .val (.long (999999999999999 : Int64)), .second, .val (.long ((p2 % (5 : Int32)).toInt64)), .second, .unset, .unset, .unset, .unset, .unset, .unset, .unset] [])) _
      refine XS.lloadN X0.here hx rfl (hb hby at_10) rfl ?_
      show Steps p.tables e below (s₁.setTop (mkF m 11 #[.val (.long q1), .second, .val (.int p2), .val (.long (999999999999999 : Int64)), .second, .val (.long ((p2 % (5 : Int32)).toInt64)), .second, .unset, .unset, .unset, .unset, .unset, .unset, .unset] [(.long (999999999999999 : Int64))])) _
      refine XS.lload X0.here hx rfl (hb hby at_11) rfl ?_
      show Steps p.tables e below (s₁.setTop (mkF m 13 #[.val (.long q1), .second, .val (.int p2), .val (.long (999999999999999 : Int64)), .second, .val (.long ((p2 % (5 : Int32)).toInt64)), .second, .unset, .unset, .unset, .unset, .unset, .unset, .unset] [(.long ((p2 % (5 : Int32)).toInt64)), (.long (999999999999999 : Int64))])) _
      refine XS.ladd X0.here hx rfl (hb hby at_13) rfl ?_
      show Steps p.tables e below (s₁.setTop (mkF m 14 #[.val (.long q1), .second, .val (.int p2), .val (.long (999999999999999 : Int64)), .second, .val (.long ((p2 % (5 : Int32)).toInt64)), .second, .unset, .unset, .unset, .unset, .unset, .unset, .unset] [(.long ((999999999999999 : Int64) + ((p2 % (5 : Int32)).toInt64)))])) _
      refine XS.lstore X0.here hx rfl (hb hby at_14) rfl (l' := #[.val (.long q1), .second, .val (.int p2), .val (.long (999999999999999 : Int64)), .second, .val (.long ((p2 % (5 : Int32)).toInt64)), .second, .val (.long ((999999999999999 : Int64) + ((p2 % (5 : Int32)).toInt64))), .second, .unset, .unset, .unset, .unset, .unset]) rfl ?_
      show Steps p.tables e below (s₁.setTop (mkF m 16 #[.val (.long q1), .second, .val (.int p2), .val (.long (999999999999999 : Int64)), .second, .val (.long ((p2 % (5 : Int32)).toInt64)), .second, .val (.long ((999999999999999 : Int64) + ((p2 % (5 : Int32)).toInt64))), .second, .unset, .unset, .unset, .unset, .unset] [])) _
      refine XS.lloadN X0.here hx rfl (hb hby at_16) rfl ?_
      show Steps p.tables e below (s₁.setTop (mkF m 17 #[.val (.long q1), .second, .val (.int p2), .val (.long (999999999999999 : Int64)), .second, .val (.long ((p2 % (5 : Int32)).toInt64)), .second, .val (.long ((999999999999999 : Int64) + ((p2 % (5 : Int32)).toInt64))), .second, .unset, .unset, .unset, .unset, .unset] [(.long (999999999999999 : Int64))])) _
      refine XS.lneg X0.here hx rfl (hb hby at_17) rfl ?_
      show Steps p.tables e below (s₁.setTop (mkF m 18 #[.val (.long q1), .second, .val (.int p2), .val (.long (999999999999999 : Int64)), .second, .val (.long ((p2 % (5 : Int32)).toInt64)), .second, .val (.long ((999999999999999 : Int64) + ((p2 % (5 : Int32)).toInt64))), .second, .unset, .unset, .unset, .unset, .unset] [(.long (-(999999999999999 : Int64)))])) _
      refine XS.lload X0.here hx rfl (hb hby at_18) rfl ?_
      show Steps p.tables e below (s₁.setTop (mkF m 20 #[.val (.long q1), .second, .val (.int p2), .val (.long (999999999999999 : Int64)), .second, .val (.long ((p2 % (5 : Int32)).toInt64)), .second, .val (.long ((999999999999999 : Int64) + ((p2 % (5 : Int32)).toInt64))), .second, .unset, .unset, .unset, .unset, .unset] [(.long ((p2 % (5 : Int32)).toInt64)), (.long (-(999999999999999 : Int64)))])) _
      refine XS.ladd X0.here hx rfl (hb hby at_20) rfl ?_
      show Steps p.tables e below (s₁.setTop (mkF m 21 #[.val (.long q1), .second, .val (.int p2), .val (.long (999999999999999 : Int64)), .second, .val (.long ((p2 % (5 : Int32)).toInt64)), .second, .val (.long ((999999999999999 : Int64) + ((p2 % (5 : Int32)).toInt64))), .second, .unset, .unset, .unset, .unset, .unset] [(.long ((-(999999999999999 : Int64)) + ((p2 % (5 : Int32)).toInt64)))])) _
      refine XS.lstore X0.here hx rfl (hb hby at_21) rfl (l' := #[.val (.long q1), .second, .val (.int p2), .val (.long (999999999999999 : Int64)), .second, .val (.long ((p2 % (5 : Int32)).toInt64)), .second, .val (.long ((999999999999999 : Int64) + ((p2 % (5 : Int32)).toInt64))), .second, .val (.long ((-(999999999999999 : Int64)) + ((p2 % (5 : Int32)).toInt64))), .second, .unset, .unset, .unset]) rfl ?_
      show Steps p.tables e below (s₁.setTop (mkF m 23 #[.val (.long q1), .second, .val (.int p2), .val (.long (999999999999999 : Int64)), .second, .val (.long ((p2 % (5 : Int32)).toInt64)), .second, .val (.long ((999999999999999 : Int64) + ((p2 % (5 : Int32)).toInt64))), .second, .val (.long ((-(999999999999999 : Int64)) + ((p2 % (5 : Int32)).toInt64))), .second, .unset, .unset, .unset] [])) _
      refine XS.lloadN X0.here hx rfl (hb hby at_23) rfl ?_
      show Steps p.tables e below (s₁.setTop (mkF m 24 #[.val (.long q1), .second, .val (.int p2), .val (.long (999999999999999 : Int64)), .second, .val (.long ((p2 % (5 : Int32)).toInt64)), .second, .val (.long ((999999999999999 : Int64) + ((p2 % (5 : Int32)).toInt64))), .second, .val (.long ((-(999999999999999 : Int64)) + ((p2 % (5 : Int32)).toInt64))), .second, .unset, .unset, .unset] [(.long q1)])) _
      refine st101 _ ?_
      show Steps p.tables e below (T101.setTop (mkF m 27 #[.val (.long q1), .second, .val (.int p2), .val (.long (999999999999999 : Int64)), .second, .val (.long ((p2 % (5 : Int32)).toInt64)), .second, .val (.long ((999999999999999 : Int64) + ((p2 % (5 : Int32)).toInt64))), .second, .val (.long ((-(999999999999999 : Int64)) + ((p2 % (5 : Int32)).toInt64))), .second, .unset, .unset, .unset] [(.int (own_v1 q1))])) _
      refine XS.lloadN X101.here hx rfl (hb hby at_27) rfl ?_
      show Steps p.tables e below (T101.setTop (mkF m 28 #[.val (.long q1), .second, .val (.int p2), .val (.long (999999999999999 : Int64)), .second, .val (.long ((p2 % (5 : Int32)).toInt64)), .second, .val (.long ((999999999999999 : Int64) + ((p2 % (5 : Int32)).toInt64))), .second, .val (.long ((-(999999999999999 : Int64)) + ((p2 % (5 : Int32)).toInt64))), .second, .unset, .unset, .unset] [(.long q1), (.int (own_v1 q1))])) _
      refine st102 _ ?_
      exact k9)
  have b104 : (own_v1 q1).toInt = (own_v2 q1).toInt := by rw [own_same]
  obtain ⟨_, _, ⟨T105, L105, k105, n105⟩, -, X105, ⟨Lc105, hQ105, l105, y105, z105⟩, st105⟩ := Jvm.LawKit.callS X102 hx (y := (⟨"com/example/towerpath/towerpath/io/FieldValues", "isTime", "(J)Z"⟩ : MethodName)) hown (mvT hZ (hw _ (List.mem_of_getElem? (i := 1) rfl))) (mvT hZ (hw _ (List.mem_of_getElem? (i := 2) rfl))) (mvT hZ (hw _ (List.mem_of_getElem? (i := 3) rfl))) (mvT hZ (hw _ (List.mem_of_getElem? (i := 4) rfl))) (by decide) (backOf (W := 0) (rm1 l Z a0 hw [] ((999999999999999 : Int64) + ((p2 % (5 : Int32)).toInt64)) h0 n0 Z0 ) hZ (hw _ (List.mem_of_getElem? (i := 4) rfl)) (hw _ (List.mem_of_getElem? (i := 3) rfl)) (by decide) (by decide)) (g := (mkF m 43 #[.val (.long q1), .second, .val (.int p2), .val (.long (999999999999999 : Int64)), .second, .val (.long ((p2 % (5 : Int32)).toInt64)), .second, .val (.long ((999999999999999 : Int64) + ((p2 % (5 : Int32)).toInt64))), .second, .val (.long ((-(999999999999999 : Int64)) + ((p2 % (5 : Int32)).toInt64))), .second, .val (.int (1 : Int32)), .unset, .unset] [(.long ((999999999999999 : Int64) + ((p2 % (5 : Int32)).toInt64)))])) rfl (by rw [hml]; rfl) (argsL := [(.long ((999999999999999 : Int64) + ((p2 % (5 : Int32)).toInt64)))]) (rest := []) (lenOf pd_0_0 rfl) rfl (by show 2 * 0 + _ ≤ _; exact Nat.le_of_eq rfl) (hb hby at_43) (fun _ _ => ⟨rfl, e102, (by decide : 0 + 0 ≤ _), (by decide : 0 + 0 ≤ _)⟩)
  dsimp only [Pt.U, Pt.locs, Pt.cells, Pt.slots] at X105 l105 y105 z105 st105 hQ105
  subst l105 y105 z105
  obtain ⟨hv105, N105q, e105⟩ := hQ105
  subst hv105
  have N105 := Fr.app N102 N105q
  obtain ⟨_, _, ⟨T106, L106, k106, n106⟩, -, X106, ⟨Lc106, hQ106, l106, y106, z106⟩, st106⟩ := Jvm.LawKit.callS X105 hx (y := (⟨"com/example/towerpath/towerpath/io/FieldValuesIsTimePinLaw", "ref", "(J)Z"⟩ : MethodName)) hown (mvT hZ (hw _ (List.mem_of_getElem? (i := 7) rfl))) (mvT hZ (hw _ (List.mem_of_getElem? (i := 8) rfl))) (mvT hZ (hw _ (List.mem_of_getElem? (i := 9) rfl))) (mvT hZ (hw _ (List.mem_of_getElem? (i := 10) rfl))) (by decide) (backOf (W := 1) (rm2 l Z a0 hw [] ((999999999999999 : Int64) + ((p2 % (5 : Int32)).toInt64)) h0 n0 Z0 ) hZ (hw _ (List.mem_of_getElem? (i := 10) rfl)) (hw _ (List.mem_of_getElem? (i := 9) rfl)) (by decide) (by decide)) (g := (mkF m 48 #[.val (.long q1), .second, .val (.int p2), .val (.long (999999999999999 : Int64)), .second, .val (.long ((p2 % (5 : Int32)).toInt64)), .second, .val (.long ((999999999999999 : Int64) + ((p2 % (5 : Int32)).toInt64))), .second, .val (.long ((-(999999999999999 : Int64)) + ((p2 % (5 : Int32)).toInt64))), .second, .val (.int (1 : Int32)), .unset, .unset] [(.long ((999999999999999 : Int64) + ((p2 % (5 : Int32)).toInt64))), (.int (own_v1 ((999999999999999 : Int64) + ((p2 % (5 : Int32)).toInt64))))])) rfl (by rw [hml]; rfl) (argsL := [(.long ((999999999999999 : Int64) + ((p2 % (5 : Int32)).toInt64)))]) (rest := [(.int (own_v1 ((999999999999999 : Int64) + ((p2 % (5 : Int32)).toInt64))))]) (lenOf pd_0_0 rfl) rfl (by show 2 * 0 + _ ≤ _; exact Nat.le_of_eq rfl) (hb hby at_48) (fun _ _ => ⟨rfl, e105, (by decide : 0 + 0 ≤ _), (by decide : 0 + 0 ≤ _)⟩)
  dsimp only [Pt.U, Pt.locs, Pt.cells, Pt.slots] at X106 l106 y106 z106 st106 hQ106
  subst l106 y106 z106
  obtain ⟨hv106, N106q, e106⟩ := hQ106
  subst hv106
  have N106 := Fr.app N105 N106q
  have pre107 : ∀ t, Steps p.tables e below (T106.setTop (mkF m 51 #[.val (.long q1), .second, .val (.int p2), .val (.long (999999999999999 : Int64)), .second, .val (.long ((p2 % (5 : Int32)).toInt64)), .second, .val (.long ((999999999999999 : Int64) + ((p2 % (5 : Int32)).toInt64))), .second, .val (.long ((-(999999999999999 : Int64)) + ((p2 % (5 : Int32)).toInt64))), .second, .val (.int (1 : Int32)), .unset, .unset] [(.int (own_v2 ((999999999999999 : Int64) + ((p2 % (5 : Int32)).toInt64)))), (.int (own_v1 ((999999999999999 : Int64) + ((p2 % (5 : Int32)).toInt64))))])) t → Steps p.tables e below (s₁.setTop (entryFrame m #[(.long q1), (.int p2)] maxLocals)) t := fun t9 k9 => pre103 t9 (by
      show Steps p.tables e below (T102.setTop (mkF m 31 #[.val (.long q1), .second, .val (.int p2), .val (.long (999999999999999 : Int64)), .second, .val (.long ((p2 % (5 : Int32)).toInt64)), .second, .val (.long ((999999999999999 : Int64) + ((p2 % (5 : Int32)).toInt64))), .second, .val (.long ((-(999999999999999 : Int64)) + ((p2 % (5 : Int32)).toInt64))), .second, .unset, .unset, .unset] [(.int (own_v2 q1)), (.int (own_v1 q1))])) _
      refine XS.icmpNo X102.here hx rfl (hb hby at_31) rfl (own_ne_f (a := (own_v1 q1).toInt) (b := (own_v2 q1).toInt) rfl rfl b104) ?_
      show Steps p.tables e below (T102.setTop (mkF m 34 #[.val (.long q1), .second, .val (.int p2), .val (.long (999999999999999 : Int64)), .second, .val (.long ((p2 % (5 : Int32)).toInt64)), .second, .val (.long ((999999999999999 : Int64) + ((p2 % (5 : Int32)).toInt64))), .second, .val (.long ((-(999999999999999 : Int64)) + ((p2 % (5 : Int32)).toInt64))), .second, .unset, .unset, .unset] [])) _
      refine XS.iconst X102.here hx rfl (hb hby at_34) ?_
      show Steps p.tables e below (T102.setTop (mkF m 35 #[.val (.long q1), .second, .val (.int p2), .val (.long (999999999999999 : Int64)), .second, .val (.long ((p2 % (5 : Int32)).toInt64)), .second, .val (.long ((999999999999999 : Int64) + ((p2 % (5 : Int32)).toInt64))), .second, .val (.long ((-(999999999999999 : Int64)) + ((p2 % (5 : Int32)).toInt64))), .second, .unset, .unset, .unset] [(.int (1 : Int32))])) _
      refine XS.goto X102.here hx rfl (pc0 := 35) (pc' := 39) rfl (hb hby at_35) (by decide) (by decide) ?_
      show Steps p.tables e below (T102.setTop (mkF m 39 #[.val (.long q1), .second, .val (.int p2), .val (.long (999999999999999 : Int64)), .second, .val (.long ((p2 % (5 : Int32)).toInt64)), .second, .val (.long ((999999999999999 : Int64) + ((p2 % (5 : Int32)).toInt64))), .second, .val (.long ((-(999999999999999 : Int64)) + ((p2 % (5 : Int32)).toInt64))), .second, .unset, .unset, .unset] [(.int (1 : Int32))])) _
      refine XS.istore X102.here hx rfl (hb hby at_39) rfl (l' := #[.val (.long q1), .second, .val (.int p2), .val (.long (999999999999999 : Int64)), .second, .val (.long ((p2 % (5 : Int32)).toInt64)), .second, .val (.long ((999999999999999 : Int64) + ((p2 % (5 : Int32)).toInt64))), .second, .val (.long ((-(999999999999999 : Int64)) + ((p2 % (5 : Int32)).toInt64))), .second, .val (.int (1 : Int32)), .unset, .unset]) rfl ?_
      show Steps p.tables e below (T102.setTop (mkF m 41 #[.val (.long q1), .second, .val (.int p2), .val (.long (999999999999999 : Int64)), .second, .val (.long ((p2 % (5 : Int32)).toInt64)), .second, .val (.long ((999999999999999 : Int64) + ((p2 % (5 : Int32)).toInt64))), .second, .val (.long ((-(999999999999999 : Int64)) + ((p2 % (5 : Int32)).toInt64))), .second, .val (.int (1 : Int32)), .unset, .unset] [])) _
      refine XS.lload X102.here hx rfl (hb hby at_41) rfl ?_
      show Steps p.tables e below (T102.setTop (mkF m 43 #[.val (.long q1), .second, .val (.int p2), .val (.long (999999999999999 : Int64)), .second, .val (.long ((p2 % (5 : Int32)).toInt64)), .second, .val (.long ((999999999999999 : Int64) + ((p2 % (5 : Int32)).toInt64))), .second, .val (.long ((-(999999999999999 : Int64)) + ((p2 % (5 : Int32)).toInt64))), .second, .val (.int (1 : Int32)), .unset, .unset] [(.long ((999999999999999 : Int64) + ((p2 % (5 : Int32)).toInt64)))])) _
      refine st105 _ ?_
      show Steps p.tables e below (T105.setTop (mkF m 46 #[.val (.long q1), .second, .val (.int p2), .val (.long (999999999999999 : Int64)), .second, .val (.long ((p2 % (5 : Int32)).toInt64)), .second, .val (.long ((999999999999999 : Int64) + ((p2 % (5 : Int32)).toInt64))), .second, .val (.long ((-(999999999999999 : Int64)) + ((p2 % (5 : Int32)).toInt64))), .second, .val (.int (1 : Int32)), .unset, .unset] [(.int (own_v1 ((999999999999999 : Int64) + ((p2 % (5 : Int32)).toInt64))))])) _
      refine XS.lload X105.here hx rfl (hb hby at_46) rfl ?_
      show Steps p.tables e below (T105.setTop (mkF m 48 #[.val (.long q1), .second, .val (.int p2), .val (.long (999999999999999 : Int64)), .second, .val (.long ((p2 % (5 : Int32)).toInt64)), .second, .val (.long ((999999999999999 : Int64) + ((p2 % (5 : Int32)).toInt64))), .second, .val (.long ((-(999999999999999 : Int64)) + ((p2 % (5 : Int32)).toInt64))), .second, .val (.int (1 : Int32)), .unset, .unset] [(.long ((999999999999999 : Int64) + ((p2 % (5 : Int32)).toInt64))), (.int (own_v1 ((999999999999999 : Int64) + ((p2 % (5 : Int32)).toInt64))))])) _
      refine st106 _ ?_
      exact k9)
  have b108 : (own_v1 ((999999999999999 : Int64) + ((p2 % (5 : Int32)).toInt64))).toInt = (own_v2 ((999999999999999 : Int64) + ((p2 % (5 : Int32)).toInt64))).toInt := by rw [own_same]
  obtain ⟨_, _, ⟨T109, L109, k109, n109⟩, -, X109, ⟨Lc109, hQ109, l109, y109, z109⟩, st109⟩ := Jvm.LawKit.callS X106 hx (y := (⟨"com/example/towerpath/towerpath/io/FieldValues", "isTime", "(J)Z"⟩ : MethodName)) hown (mvT hZ (hw _ (List.mem_of_getElem? (i := 1) rfl))) (mvT hZ (hw _ (List.mem_of_getElem? (i := 2) rfl))) (mvT hZ (hw _ (List.mem_of_getElem? (i := 3) rfl))) (mvT hZ (hw _ (List.mem_of_getElem? (i := 4) rfl))) (by decide) (backOf (W := 0) (rm1 l Z a0 hw [] ((-(999999999999999 : Int64)) + ((p2 % (5 : Int32)).toInt64)) h0 n0 Z0 ) hZ (hw _ (List.mem_of_getElem? (i := 4) rfl)) (hw _ (List.mem_of_getElem? (i := 3) rfl)) (by decide) (by decide)) (g := (mkF m 63 #[.val (.long q1), .second, .val (.int p2), .val (.long (999999999999999 : Int64)), .second, .val (.long ((p2 % (5 : Int32)).toInt64)), .second, .val (.long ((999999999999999 : Int64) + ((p2 % (5 : Int32)).toInt64))), .second, .val (.long ((-(999999999999999 : Int64)) + ((p2 % (5 : Int32)).toInt64))), .second, .val (.int (1 : Int32)), .val (.int (1 : Int32)), .unset] [(.long ((-(999999999999999 : Int64)) + ((p2 % (5 : Int32)).toInt64)))])) rfl (by rw [hml]; rfl) (argsL := [(.long ((-(999999999999999 : Int64)) + ((p2 % (5 : Int32)).toInt64)))]) (rest := []) (lenOf pd_0_0 rfl) rfl (by show 2 * 0 + _ ≤ _; exact Nat.le_of_eq rfl) (hb hby at_63) (fun _ _ => ⟨rfl, e106, (by decide : 0 + 0 ≤ _), (by decide : 0 + 0 ≤ _)⟩)
  dsimp only [Pt.U, Pt.locs, Pt.cells, Pt.slots] at X109 l109 y109 z109 st109 hQ109
  subst l109 y109 z109
  obtain ⟨hv109, N109q, e109⟩ := hQ109
  subst hv109
  have N109 := Fr.app N106 N109q
  obtain ⟨_, _, ⟨T110, L110, k110, n110⟩, -, X110, ⟨Lc110, hQ110, l110, y110, z110⟩, st110⟩ := Jvm.LawKit.callS X109 hx (y := (⟨"com/example/towerpath/towerpath/io/FieldValuesIsTimePinLaw", "ref", "(J)Z"⟩ : MethodName)) hown (mvT hZ (hw _ (List.mem_of_getElem? (i := 7) rfl))) (mvT hZ (hw _ (List.mem_of_getElem? (i := 8) rfl))) (mvT hZ (hw _ (List.mem_of_getElem? (i := 9) rfl))) (mvT hZ (hw _ (List.mem_of_getElem? (i := 10) rfl))) (by decide) (backOf (W := 1) (rm2 l Z a0 hw [] ((-(999999999999999 : Int64)) + ((p2 % (5 : Int32)).toInt64)) h0 n0 Z0 ) hZ (hw _ (List.mem_of_getElem? (i := 10) rfl)) (hw _ (List.mem_of_getElem? (i := 9) rfl)) (by decide) (by decide)) (g := (mkF m 68 #[.val (.long q1), .second, .val (.int p2), .val (.long (999999999999999 : Int64)), .second, .val (.long ((p2 % (5 : Int32)).toInt64)), .second, .val (.long ((999999999999999 : Int64) + ((p2 % (5 : Int32)).toInt64))), .second, .val (.long ((-(999999999999999 : Int64)) + ((p2 % (5 : Int32)).toInt64))), .second, .val (.int (1 : Int32)), .val (.int (1 : Int32)), .unset] [(.long ((-(999999999999999 : Int64)) + ((p2 % (5 : Int32)).toInt64))), (.int (own_v1 ((-(999999999999999 : Int64)) + ((p2 % (5 : Int32)).toInt64))))])) rfl (by rw [hml]; rfl) (argsL := [(.long ((-(999999999999999 : Int64)) + ((p2 % (5 : Int32)).toInt64)))]) (rest := [(.int (own_v1 ((-(999999999999999 : Int64)) + ((p2 % (5 : Int32)).toInt64))))]) (lenOf pd_0_0 rfl) rfl (by show 2 * 0 + _ ≤ _; exact Nat.le_of_eq rfl) (hb hby at_68) (fun _ _ => ⟨rfl, e109, (by decide : 0 + 0 ≤ _), (by decide : 0 + 0 ≤ _)⟩)
  dsimp only [Pt.U, Pt.locs, Pt.cells, Pt.slots] at X110 l110 y110 z110 st110 hQ110
  subst l110 y110 z110
  obtain ⟨hv110, N110q, e110⟩ := hQ110
  subst hv110
  have N110 := Fr.app N109 N110q
  have pre111 : ∀ t, Steps p.tables e below (T110.setTop (mkF m 71 #[.val (.long q1), .second, .val (.int p2), .val (.long (999999999999999 : Int64)), .second, .val (.long ((p2 % (5 : Int32)).toInt64)), .second, .val (.long ((999999999999999 : Int64) + ((p2 % (5 : Int32)).toInt64))), .second, .val (.long ((-(999999999999999 : Int64)) + ((p2 % (5 : Int32)).toInt64))), .second, .val (.int (1 : Int32)), .val (.int (1 : Int32)), .unset] [(.int (own_v2 ((-(999999999999999 : Int64)) + ((p2 % (5 : Int32)).toInt64)))), (.int (own_v1 ((-(999999999999999 : Int64)) + ((p2 % (5 : Int32)).toInt64))))])) t → Steps p.tables e below (s₁.setTop (entryFrame m #[(.long q1), (.int p2)] maxLocals)) t := fun t9 k9 => pre107 t9 (by
      show Steps p.tables e below (T106.setTop (mkF m 51 #[.val (.long q1), .second, .val (.int p2), .val (.long (999999999999999 : Int64)), .second, .val (.long ((p2 % (5 : Int32)).toInt64)), .second, .val (.long ((999999999999999 : Int64) + ((p2 % (5 : Int32)).toInt64))), .second, .val (.long ((-(999999999999999 : Int64)) + ((p2 % (5 : Int32)).toInt64))), .second, .val (.int (1 : Int32)), .unset, .unset] [(.int (own_v2 ((999999999999999 : Int64) + ((p2 % (5 : Int32)).toInt64)))), (.int (own_v1 ((999999999999999 : Int64) + ((p2 % (5 : Int32)).toInt64))))])) _
      refine XS.icmpNo X106.here hx rfl (hb hby at_51) rfl (own_ne_f (a := (own_v1 ((999999999999999 : Int64) + ((p2 % (5 : Int32)).toInt64))).toInt) (b := (own_v2 ((999999999999999 : Int64) + ((p2 % (5 : Int32)).toInt64))).toInt) rfl rfl b108) ?_
      show Steps p.tables e below (T106.setTop (mkF m 54 #[.val (.long q1), .second, .val (.int p2), .val (.long (999999999999999 : Int64)), .second, .val (.long ((p2 % (5 : Int32)).toInt64)), .second, .val (.long ((999999999999999 : Int64) + ((p2 % (5 : Int32)).toInt64))), .second, .val (.long ((-(999999999999999 : Int64)) + ((p2 % (5 : Int32)).toInt64))), .second, .val (.int (1 : Int32)), .unset, .unset] [])) _
      refine XS.iconst X106.here hx rfl (hb hby at_54) ?_
      show Steps p.tables e below (T106.setTop (mkF m 55 #[.val (.long q1), .second, .val (.int p2), .val (.long (999999999999999 : Int64)), .second, .val (.long ((p2 % (5 : Int32)).toInt64)), .second, .val (.long ((999999999999999 : Int64) + ((p2 % (5 : Int32)).toInt64))), .second, .val (.long ((-(999999999999999 : Int64)) + ((p2 % (5 : Int32)).toInt64))), .second, .val (.int (1 : Int32)), .unset, .unset] [(.int (1 : Int32))])) _
      refine XS.goto X106.here hx rfl (pc0 := 55) (pc' := 59) rfl (hb hby at_55) (by decide) (by decide) ?_
      show Steps p.tables e below (T106.setTop (mkF m 59 #[.val (.long q1), .second, .val (.int p2), .val (.long (999999999999999 : Int64)), .second, .val (.long ((p2 % (5 : Int32)).toInt64)), .second, .val (.long ((999999999999999 : Int64) + ((p2 % (5 : Int32)).toInt64))), .second, .val (.long ((-(999999999999999 : Int64)) + ((p2 % (5 : Int32)).toInt64))), .second, .val (.int (1 : Int32)), .unset, .unset] [(.int (1 : Int32))])) _
      refine XS.istore X106.here hx rfl (hb hby at_59) rfl (l' := #[.val (.long q1), .second, .val (.int p2), .val (.long (999999999999999 : Int64)), .second, .val (.long ((p2 % (5 : Int32)).toInt64)), .second, .val (.long ((999999999999999 : Int64) + ((p2 % (5 : Int32)).toInt64))), .second, .val (.long ((-(999999999999999 : Int64)) + ((p2 % (5 : Int32)).toInt64))), .second, .val (.int (1 : Int32)), .val (.int (1 : Int32)), .unset]) rfl ?_
      show Steps p.tables e below (T106.setTop (mkF m 61 #[.val (.long q1), .second, .val (.int p2), .val (.long (999999999999999 : Int64)), .second, .val (.long ((p2 % (5 : Int32)).toInt64)), .second, .val (.long ((999999999999999 : Int64) + ((p2 % (5 : Int32)).toInt64))), .second, .val (.long ((-(999999999999999 : Int64)) + ((p2 % (5 : Int32)).toInt64))), .second, .val (.int (1 : Int32)), .val (.int (1 : Int32)), .unset] [])) _
      refine XS.lload X106.here hx rfl (hb hby at_61) rfl ?_
      show Steps p.tables e below (T106.setTop (mkF m 63 #[.val (.long q1), .second, .val (.int p2), .val (.long (999999999999999 : Int64)), .second, .val (.long ((p2 % (5 : Int32)).toInt64)), .second, .val (.long ((999999999999999 : Int64) + ((p2 % (5 : Int32)).toInt64))), .second, .val (.long ((-(999999999999999 : Int64)) + ((p2 % (5 : Int32)).toInt64))), .second, .val (.int (1 : Int32)), .val (.int (1 : Int32)), .unset] [(.long ((-(999999999999999 : Int64)) + ((p2 % (5 : Int32)).toInt64)))])) _
      refine st109 _ ?_
      show Steps p.tables e below (T109.setTop (mkF m 66 #[.val (.long q1), .second, .val (.int p2), .val (.long (999999999999999 : Int64)), .second, .val (.long ((p2 % (5 : Int32)).toInt64)), .second, .val (.long ((999999999999999 : Int64) + ((p2 % (5 : Int32)).toInt64))), .second, .val (.long ((-(999999999999999 : Int64)) + ((p2 % (5 : Int32)).toInt64))), .second, .val (.int (1 : Int32)), .val (.int (1 : Int32)), .unset] [(.int (own_v1 ((-(999999999999999 : Int64)) + ((p2 % (5 : Int32)).toInt64))))])) _
      refine XS.lload X109.here hx rfl (hb hby at_66) rfl ?_
      show Steps p.tables e below (T109.setTop (mkF m 68 #[.val (.long q1), .second, .val (.int p2), .val (.long (999999999999999 : Int64)), .second, .val (.long ((p2 % (5 : Int32)).toInt64)), .second, .val (.long ((999999999999999 : Int64) + ((p2 % (5 : Int32)).toInt64))), .second, .val (.long ((-(999999999999999 : Int64)) + ((p2 % (5 : Int32)).toInt64))), .second, .val (.int (1 : Int32)), .val (.int (1 : Int32)), .unset] [(.long ((-(999999999999999 : Int64)) + ((p2 % (5 : Int32)).toInt64))), (.int (own_v1 ((-(999999999999999 : Int64)) + ((p2 % (5 : Int32)).toInt64))))])) _
      refine st110 _ ?_
      exact k9)
  have b112 : (own_v1 ((-(999999999999999 : Int64)) + ((p2 % (5 : Int32)).toInt64))).toInt = (own_v2 ((-(999999999999999 : Int64)) + ((p2 % (5 : Int32)).toInt64))).toInt := by rw [own_same]
  have pre113 : ∀ t, Steps p.tables e below (T110.setTop (mkF m 101 #[.val (.long q1), .second, .val (.int p2), .val (.long (999999999999999 : Int64)), .second, .val (.long ((p2 % (5 : Int32)).toInt64)), .second, .val (.long ((999999999999999 : Int64) + ((p2 % (5 : Int32)).toInt64))), .second, .val (.long ((-(999999999999999 : Int64)) + ((p2 % (5 : Int32)).toInt64))), .second, .val (.int (1 : Int32)), .val (.int (1 : Int32)), .val (.int (1 : Int32))] [(.int (1 : Int32))])) t → Steps p.tables e below (s₁.setTop (entryFrame m #[(.long q1), (.int p2)] maxLocals)) t := fun t9 k9 => pre111 t9 (by
      show Steps p.tables e below (T110.setTop (mkF m 71 #[.val (.long q1), .second, .val (.int p2), .val (.long (999999999999999 : Int64)), .second, .val (.long ((p2 % (5 : Int32)).toInt64)), .second, .val (.long ((999999999999999 : Int64) + ((p2 % (5 : Int32)).toInt64))), .second, .val (.long ((-(999999999999999 : Int64)) + ((p2 % (5 : Int32)).toInt64))), .second, .val (.int (1 : Int32)), .val (.int (1 : Int32)), .unset] [(.int (own_v2 ((-(999999999999999 : Int64)) + ((p2 % (5 : Int32)).toInt64)))), (.int (own_v1 ((-(999999999999999 : Int64)) + ((p2 % (5 : Int32)).toInt64))))])) _
      refine XS.icmpNo X110.here hx rfl (hb hby at_71) rfl (own_ne_f (a := (own_v1 ((-(999999999999999 : Int64)) + ((p2 % (5 : Int32)).toInt64))).toInt) (b := (own_v2 ((-(999999999999999 : Int64)) + ((p2 % (5 : Int32)).toInt64))).toInt) rfl rfl b112) ?_
      show Steps p.tables e below (T110.setTop (mkF m 74 #[.val (.long q1), .second, .val (.int p2), .val (.long (999999999999999 : Int64)), .second, .val (.long ((p2 % (5 : Int32)).toInt64)), .second, .val (.long ((999999999999999 : Int64) + ((p2 % (5 : Int32)).toInt64))), .second, .val (.long ((-(999999999999999 : Int64)) + ((p2 % (5 : Int32)).toInt64))), .second, .val (.int (1 : Int32)), .val (.int (1 : Int32)), .unset] [])) _
      refine XS.iconst X110.here hx rfl (hb hby at_74) ?_
      show Steps p.tables e below (T110.setTop (mkF m 75 #[.val (.long q1), .second, .val (.int p2), .val (.long (999999999999999 : Int64)), .second, .val (.long ((p2 % (5 : Int32)).toInt64)), .second, .val (.long ((999999999999999 : Int64) + ((p2 % (5 : Int32)).toInt64))), .second, .val (.long ((-(999999999999999 : Int64)) + ((p2 % (5 : Int32)).toInt64))), .second, .val (.int (1 : Int32)), .val (.int (1 : Int32)), .unset] [(.int (1 : Int32))])) _
      refine XS.goto X110.here hx rfl (pc0 := 75) (pc' := 79) rfl (hb hby at_75) (by decide) (by decide) ?_
      show Steps p.tables e below (T110.setTop (mkF m 79 #[.val (.long q1), .second, .val (.int p2), .val (.long (999999999999999 : Int64)), .second, .val (.long ((p2 % (5 : Int32)).toInt64)), .second, .val (.long ((999999999999999 : Int64) + ((p2 % (5 : Int32)).toInt64))), .second, .val (.long ((-(999999999999999 : Int64)) + ((p2 % (5 : Int32)).toInt64))), .second, .val (.int (1 : Int32)), .val (.int (1 : Int32)), .unset] [(.int (1 : Int32))])) _
      refine XS.istore X110.here hx rfl (hb hby at_79) rfl (l' := #[.val (.long q1), .second, .val (.int p2), .val (.long (999999999999999 : Int64)), .second, .val (.long ((p2 % (5 : Int32)).toInt64)), .second, .val (.long ((999999999999999 : Int64) + ((p2 % (5 : Int32)).toInt64))), .second, .val (.long ((-(999999999999999 : Int64)) + ((p2 % (5 : Int32)).toInt64))), .second, .val (.int (1 : Int32)), .val (.int (1 : Int32)), .val (.int (1 : Int32))]) rfl ?_
      show Steps p.tables e below (T110.setTop (mkF m 81 #[.val (.long q1), .second, .val (.int p2), .val (.long (999999999999999 : Int64)), .second, .val (.long ((p2 % (5 : Int32)).toInt64)), .second, .val (.long ((999999999999999 : Int64) + ((p2 % (5 : Int32)).toInt64))), .second, .val (.long ((-(999999999999999 : Int64)) + ((p2 % (5 : Int32)).toInt64))), .second, .val (.int (1 : Int32)), .val (.int (1 : Int32)), .val (.int (1 : Int32))] [])) _
      refine XS.iload X110.here hx rfl (hb hby at_81) rfl ?_
      show Steps p.tables e below (T110.setTop (mkF m 83 #[.val (.long q1), .second, .val (.int p2), .val (.long (999999999999999 : Int64)), .second, .val (.long ((p2 % (5 : Int32)).toInt64)), .second, .val (.long ((999999999999999 : Int64) + ((p2 % (5 : Int32)).toInt64))), .second, .val (.long ((-(999999999999999 : Int64)) + ((p2 % (5 : Int32)).toInt64))), .second, .val (.int (1 : Int32)), .val (.int (1 : Int32)), .val (.int (1 : Int32))] [(.int (1 : Int32))])) _
      refine XS.ifNo X110.here hx rfl (hb hby at_83) rfl ((if0 _ _).trans (own_eq_f (a := (1 : Int)) (b := (0 : Int)) (by decide) (by decide) (by decide))) ?_
      show Steps p.tables e below (T110.setTop (mkF m 86 #[.val (.long q1), .second, .val (.int p2), .val (.long (999999999999999 : Int64)), .second, .val (.long ((p2 % (5 : Int32)).toInt64)), .second, .val (.long ((999999999999999 : Int64) + ((p2 % (5 : Int32)).toInt64))), .second, .val (.long ((-(999999999999999 : Int64)) + ((p2 % (5 : Int32)).toInt64))), .second, .val (.int (1 : Int32)), .val (.int (1 : Int32)), .val (.int (1 : Int32))] [])) _
      refine XS.iload X110.here hx rfl (hb hby at_86) rfl ?_
      show Steps p.tables e below (T110.setTop (mkF m 88 #[.val (.long q1), .second, .val (.int p2), .val (.long (999999999999999 : Int64)), .second, .val (.long ((p2 % (5 : Int32)).toInt64)), .second, .val (.long ((999999999999999 : Int64) + ((p2 % (5 : Int32)).toInt64))), .second, .val (.long ((-(999999999999999 : Int64)) + ((p2 % (5 : Int32)).toInt64))), .second, .val (.int (1 : Int32)), .val (.int (1 : Int32)), .val (.int (1 : Int32))] [(.int (1 : Int32))])) _
      refine XS.ifNo X110.here hx rfl (hb hby at_88) rfl ((if0 _ _).trans (own_eq_f (a := (1 : Int)) (b := (0 : Int)) (by decide) (by decide) (by decide))) ?_
      show Steps p.tables e below (T110.setTop (mkF m 91 #[.val (.long q1), .second, .val (.int p2), .val (.long (999999999999999 : Int64)), .second, .val (.long ((p2 % (5 : Int32)).toInt64)), .second, .val (.long ((999999999999999 : Int64) + ((p2 % (5 : Int32)).toInt64))), .second, .val (.long ((-(999999999999999 : Int64)) + ((p2 % (5 : Int32)).toInt64))), .second, .val (.int (1 : Int32)), .val (.int (1 : Int32)), .val (.int (1 : Int32))] [])) _
      refine XS.iload X110.here hx rfl (hb hby at_91) rfl ?_
      show Steps p.tables e below (T110.setTop (mkF m 93 #[.val (.long q1), .second, .val (.int p2), .val (.long (999999999999999 : Int64)), .second, .val (.long ((p2 % (5 : Int32)).toInt64)), .second, .val (.long ((999999999999999 : Int64) + ((p2 % (5 : Int32)).toInt64))), .second, .val (.long ((-(999999999999999 : Int64)) + ((p2 % (5 : Int32)).toInt64))), .second, .val (.int (1 : Int32)), .val (.int (1 : Int32)), .val (.int (1 : Int32))] [(.int (1 : Int32))])) _
      refine XS.ifNo X110.here hx rfl (hb hby at_93) rfl ((if0 _ _).trans (own_eq_f (a := (1 : Int)) (b := (0 : Int)) (by decide) (by decide) (by decide))) ?_
      show Steps p.tables e below (T110.setTop (mkF m 96 #[.val (.long q1), .second, .val (.int p2), .val (.long (999999999999999 : Int64)), .second, .val (.long ((p2 % (5 : Int32)).toInt64)), .second, .val (.long ((999999999999999 : Int64) + ((p2 % (5 : Int32)).toInt64))), .second, .val (.long ((-(999999999999999 : Int64)) + ((p2 % (5 : Int32)).toInt64))), .second, .val (.int (1 : Int32)), .val (.int (1 : Int32)), .val (.int (1 : Int32))] [])) _
      refine XS.iconst X110.here hx rfl (hb hby at_96) ?_
      show Steps p.tables e below (T110.setTop (mkF m 97 #[.val (.long q1), .second, .val (.int p2), .val (.long (999999999999999 : Int64)), .second, .val (.long ((p2 % (5 : Int32)).toInt64)), .second, .val (.long ((999999999999999 : Int64) + ((p2 % (5 : Int32)).toInt64))), .second, .val (.long ((-(999999999999999 : Int64)) + ((p2 % (5 : Int32)).toInt64))), .second, .val (.int (1 : Int32)), .val (.int (1 : Int32)), .val (.int (1 : Int32))] [(.int (1 : Int32))])) _
      refine XS.goto X110.here hx rfl (pc0 := 97) (pc' := 101) rfl (hb hby at_97) (by decide) (by decide) ?_
      exact k9)
  obtain ⟨fs, hr, hrun, hended, hW, hsame⟩ := X110.leave (v := some (.int (1 : Int32))) (fun h => by rw [Bd.returns] at h; cases h)
  refine ⟨_, _, pre113 _ ?_, hrun, hended, _, _, rfl, ?_, ⟨_, rfl⟩, hW, hsame.mono (by decide) (by decide)⟩
  · show Steps p.tables e below (T110.setTop (mkF m 101 #[.val (.long q1), .second, .val (.int p2), .val (.long (999999999999999 : Int64)), .second, .val (.long ((p2 % (5 : Int32)).toInt64)), .second, .val (.long ((999999999999999 : Int64) + ((p2 % (5 : Int32)).toInt64))), .second, .val (.long ((-(999999999999999 : Int64)) + ((p2 % (5 : Int32)).toInt64))), .second, .val (.int (1 : Int32)), .val (.int (1 : Int32)), .val (.int (1 : Int32))] [(.int (1 : Int32))])) _
    exact retN X110 hx (t := .boolean) Bd.returns (by simp) (hb hby at_101) hr
  · show Q0 Z q1 p2 h0 n0 _ T110.heap _
    rw [e110]
    exact ⟨rfl, N110⟩
set_option maxRecDepth 65536 in
set_option maxHeartbeats 40000000 in
theorem comes_1 {Post : Tables → Env → Array Value → State → Outcome → State → Prop} (hpost : ∀ tb e args s v u, (limb_1_1.after args s (.returned v) u = true ∧ limb_1_2.after args s (.returned v) u = true ∧ True) → FrameEnd s (.returned v) u (Jvm.fieldLocs frame_1_writes args s ++ Jvm.arrayLocs frame_1_arrays args s ++ Jvm.staticLocs frame_1_statics s) 0 0 → Post tb e args s (.returned v) u) :
    ArmFor flags0 classFile x code maxLocals ret World_1 tables_1 room_1 Calls_1 rest_1 Pre_1 Post := by
  intro l hfl _ _ p e ha hc hk s m args below hf hA hF happ hP
  obtain ⟨hcalls, hrest, hpre⟩ := hP
  obtain ⟨-, -, -, hnamed, -, -, -, hat⟩ := (Spec.applies_iff hf).mp happ
  obtain ⟨hg, hn⟩ := and_e (Cond.before_iff.mp (show (Jvm.Cond.and given_1 narrow_1).before args s = true from hpre))
  obtain ⟨gc, g0⟩ := and_e hg
  obtain ⟨ga0, g1⟩ := and_e g0
  obtain ⟨w0, w1, rfl⟩ : ∃ w0 w1 : Value, args = #[w0, w1] := by
    have hs : args.size = 2 := by simpa [Cond.value, given_1] using gc
    obtain ⟨L⟩ := args
    match L, hs with
    | [w0, w1], _ => exact ⟨w0, w1, rfl⟩
  have hw := fun d (hd : d ∈ tables_1) => atoms_spec (ws := Jvm.Cond.code x code maxLocals ret :: tables_1) hat d (List.mem_cons_of_mem _ hd)
  obtain ⟨i0, ei0⟩ := isL_v ga0
  obtain rfl : w0 = (.long i0) := Option.some.inj ei0
  obtain ⟨i1, ei1⟩ := is_v g1
  obtain rfl : w1 = (.int i1) := Option.some.inj ei1
  obtain ⟨n, o, h1, h2, h3, _, L, rfl, ⟨rfl, N⟩, hq⟩ := rm0 l s _ hw tables_1 i0 i1 s.heap s.heap.size (Nat.le_refl _) p e ha hc hk s m _ below hf ((Spec.applies_iff_loose hf).mp happ).1 ⟨rfl, State.Warmed39.refl s, rfl⟩ trivial
  refine ⟨n, _, h1, h2, h3, hpost _ _ _ _ _ _ ⟨Cond.after_iff.mpr rfl, Cond.after_iff.mpr (eq_i res_at (Term.int_eval (1)) rfl), trivial⟩ ⟨hq.1, hq.2.1, (hq.2.2.sift fun y hy => Or.inr (N y hy)).mono (by decide) (by decide)⟩⟩
theorem main_1_1 : Claimed_1_1 := comes_1 fun _ _ _ _ _ _ h hF => ⟨h.1, hF⟩
theorem main_1_2 : Claimed_1_2 := comes_1 fun _ _ _ _ _ _ h hF => ⟨h.2.1, hF⟩
end Jvm.Pilot.@@N@@
namespace Jvm.Pilot.@@N@@
open Jvm Jvm.ClassFile Sem Op Lib Jvm.Free Jvm.Stand Jvm.Pilot.@@N@@.Jvm.D
/-! MADE BY PROGRAM (witnessworld.py) out of the Statement's table words and the real class files: 10 classes; the members and pool entries that the words name. The judged class is class 1, her method 2. -/
namespace start1
open Jvm.ClassFile
def u (s : String) : CpInfo := .utf8 (stringToUtf16 s)
/-- a pool by its gaps: so many unusable entries, then the entry; so many at the end -/
def gap : Nat → List CpInfo → List CpInfo
  | 0, r => r
  | n + 1, r => .unusable :: gap n r
def poolList (es : List (Nat × CpInfo)) (last : Nat) : List CpInfo := es.foldr (fun e r => gap e.1 (e.2 :: r)) (gap last [])
def pool (es : List (Nat × CpInfo)) (last : Nat) : Array CpInfo := ⟨poolList es last⟩
def fileOf (pool : Array CpInfo) (this : Nat) (attrs : Array Attribute := #[]) (ms : Array MethodInfo := #[]) (fl : Nat := 33) (sup : Nat := 0) (ifs : Array Nat := #[]) (fds : Array FieldInfo := #[]) : ClassFile where
  minorVersion := 0
  majorVersion := 65
  constantPool := pool
  accessFlags := fl
  thisClass := this
  superClass := sup
  interfaces := ifs
  fields := fds
  methods := ms
  attributes := attrs
def plain (name : String) (sup : Option ClassId) : Class where
  name := name
  kind := .ordinary
  loader := none
  accessFlags := 33
  super := sup
  interfaces := #[]
  cf := none
  fields := #[]
  methods := #[]
  instanceTypes := #[]
  staticTypes := #[]
  resolved := #[]
  callSites := []
  init := .initialized
  statics := none
  mirror := none

def pool0 : Array CpInfo := pool [(5, u "<init>"), (0, u "()V"), (1, .class_ 10), (1, u "java/lang/Object")] 113

def k0m0 : Method := { name := "<init>", desc := "()V", sig := { parameters := [], returnType := none }, accessFlags := 1, code := none }
/-- java/lang/Object -/
def k0 : Class := { plain "java/lang/Object" none with
  accessFlags := 33
  interfaces := #[]
  cf := some (fileOf pool0 8 #[] #[{ accessFlags := 1, nameIndex := 5, descriptorIndex := 6, attributes := #[] }] 33 0 #[] #[])
  fields := #[]
  methods := #[k0m0]
  instanceTypes := #[]
  staticTypes := #[]
  resolved := Array.replicate 124 none
  statics := none }

def pool1 : Array CpInfo := pool [(2, .class_ 4), (1, u "java/lang/Object"), (0, u "<init>"), (0, u "()V"), (2, .long 9223372036854775808), (1, .methodref 12 13), (0, .class_ 14), (0, .nameAndType 15 16), (0, u "java/lang/Math"), (0, u "abs"), (0, u "(J)J"), (0, .long 999999999999999), (1, .methodref 20 21), (0, .class_ 22), (0, .nameAndType 23 24), (0, u "com/example/towerpath/towerpath/io/FieldValues"), (0, u "isTime"), (0, u "(J)Z"), (0, .methodref 26 27), (0, .class_ 28), (0, .nameAndType 29 24), (0, u "com/example/towerpath/towerpath/io/FieldValuesIsTimePinLaw"), (0, u "ref"), (3, u "law"), (0, u "(JI)Z")] 2

def k1m0 : Method := { name := "<init>", desc := "()V", sig := { parameters := [], returnType := none }, accessFlags := 2, code := none }
def k1c1 : Code := { maxStack := 4, maxLocals := 2, code := method_2_code, exceptionTable := #[], attributes := #[] }
def k1m1 : Method := { name := "ref", desc := "(J)Z", sig := { parameters := [.long], returnType := some .boolean }, accessFlags := 10, code := some k1c1 }
def k1c2 : Code := { maxStack := 4, maxLocals := 14, code := code, exceptionTable := #[], attributes := #[] }
def k1m2 : Method := { name := "law", desc := "(JI)Z", sig := { parameters := [.long, .int], returnType := some .boolean }, accessFlags := 9, code := some k1c2 }
/-- com/example/towerpath/towerpath/io/FieldValuesIsTimePinLaw -/
def k1 : Class := { plain "com/example/towerpath/towerpath/io/FieldValuesIsTimePinLaw" (some 0) with
  accessFlags := 49
  interfaces := #[]
  cf := some (fileOf pool1 26 #[] #[{ accessFlags := 2, nameIndex := 5, descriptorIndex := 6, attributes := #[] }, { accessFlags := 10, nameIndex := 29, descriptorIndex := 24, attributes := #[] }, { accessFlags := 9, nameIndex := 33, descriptorIndex := 34, attributes := #[] }] 49 2 #[] #[])
  fields := #[]
  methods := #[k1m0, k1m1, k1m2]
  instanceTypes := #[]
  staticTypes := #[]
  resolved := Array.replicate 37 none
  statics := none }

def pool2 : Array CpInfo := pool [(2, .class_ 4), (1, u "java/lang/Object"), (0, u "<init>"), (0, u "()V"), (1, .class_ 10), (1, u "com/example/towerpath/towerpath/io/FieldValues"), (0, u "DECIMAL"), (0, u "Ljava/util/regex/Pattern;"), (35, .long 18445744073709551617), (1, .long 999999999999999), (3, u "isTime"), (0, u "(J)Z"), (38, u "TIME_LIMIT"), (0, u "J"), (1, u "LATITUDE_LIMIT"), (0, u "I"), (1, u "LONGITUDE_LIMIT")] 50

def k2m0 : Method := { name := "<init>", desc := "()V", sig := { parameters := [], returnType := none }, accessFlags := 2, code := none }
def k2c1 : Code := { maxStack := 4, maxLocals := 2, code := prog_22_method_3_code, exceptionTable := #[], attributes := #[] }
def k2m1 : Method := { name := "isTime", desc := "(J)Z", sig := { parameters := [.long], returnType := some .boolean }, accessFlags := 8, code := some k2c1 }
/-- com/example/towerpath/towerpath/io/FieldValues -/
def k2 : Class := { plain "com/example/towerpath/towerpath/io/FieldValues" (some 0) with
  accessFlags := 49
  interfaces := #[]
  cf := some (fileOf pool2 8 #[] #[{ accessFlags := 2, nameIndex := 5, descriptorIndex := 6, attributes := #[] }, { accessFlags := 8, nameIndex := 54, descriptorIndex := 55, attributes := #[] }] 49 2 #[] #[{ accessFlags := 26, nameIndex := 11, descriptorIndex := 12, attributes := #[] }, { accessFlags := 24, nameIndex := 94, descriptorIndex := 95, attributes := #[] }, { accessFlags := 26, nameIndex := 97, descriptorIndex := 98, attributes := #[] }, { accessFlags := 26, nameIndex := 100, descriptorIndex := 98, attributes := #[] }])
  fields := #[{ name := "DECIMAL", type := (.object "java/util/regex/Pattern"), accessFlags := 26, slot := 0, constantValue := 0 }, { name := "TIME_LIMIT", type := .long, accessFlags := 24, slot := 1, constantValue := 0 }, { name := "LATITUDE_LIMIT", type := .int, accessFlags := 26, slot := 2, constantValue := 0 }, { name := "LONGITUDE_LIMIT", type := .int, accessFlags := 26, slot := 3, constantValue := 0 }]
  methods := #[k2m0, k2m1]
  instanceTypes := #[]
  staticTypes := #[(.object "java/util/regex/Pattern"), .long, .int, .int]
  resolved := Array.replicate 151 none
  statics := none }

def pool3 : Array CpInfo := pool [(1, .class_ 2), (0, u "java/lang/Math"), (1, .class_ 6), (1, u "java/lang/Object"), (0, u "<init>"), (0, u "()V"), (89, .class_ 100), (1, u "java/lang/Math$RandomNumberGeneratorHolder"), (23, u "abs"), (0, u "(J)J"), (46, u "negativeZeroFloatBits"), (0, u "J"), (2, u "negativeZeroDoubleBits"), (68, u "$assertionsDisabled"), (0, u "Z"), (91, u "twoToTheDoubleScaleDown"), (0, u "D"), (4, u "twoToTheDoubleScaleUp"), (9, u "E"), (3, u "PI"), (2, u "TAU"), (2, u "DEGREES_TO_RADIANS"), (0, u "RADIANS_TO_DEGREES")] 94

def k3m0 : Method := { name := "<init>", desc := "()V", sig := { parameters := [], returnType := none }, accessFlags := 2, code := none }
def k3c1 : Code := { maxStack := 4, maxLocals := 2, code := jdk_29_method_61_code, exceptionTable := #[], attributes := #[] }
def k3m1 : Method := { name := "abs", desc := "(J)J", sig := { parameters := [.long], returnType := some .long }, accessFlags := 9, code := some k3c1 }
/-- java/lang/Math -/
def k3 : Class := { plain "java/lang/Math" (some 0) with
  accessFlags := 49
  interfaces := #[]
  cf := some (fileOf pool3 1 #[.nestMembers #[98]] #[{ accessFlags := 2, nameIndex := 7, descriptorIndex := 8, attributes := #[] }, { accessFlags := 9, nameIndex := 124, descriptorIndex := 125, attributes := #[] }] 49 4 #[] #[{ accessFlags := 25, nameIndex := 354, descriptorIndex := 339, attributes := #[] }, { accessFlags := 25, nameIndex := 358, descriptorIndex := 339, attributes := #[] }, { accessFlags := 25, nameIndex := 361, descriptorIndex := 339, attributes := #[] }, { accessFlags := 26, nameIndex := 364, descriptorIndex := 339, attributes := #[] }, { accessFlags := 26, nameIndex := 365, descriptorIndex := 339, attributes := #[] }, { accessFlags := 26, nameIndex := 172, descriptorIndex := 173, attributes := #[] }, { accessFlags := 26, nameIndex := 176, descriptorIndex := 173, attributes := #[] }, { accessFlags := 8, nameIndex := 344, descriptorIndex := 339, attributes := #[] }, { accessFlags := 8, nameIndex := 338, descriptorIndex := 339, attributes := #[] }, { accessFlags := 4120, nameIndex := 245, descriptorIndex := 246, attributes := #[] }])
  fields := #[{ name := "E", type := .double, accessFlags := 25, slot := 0, constantValue := 0 }, { name := "PI", type := .double, accessFlags := 25, slot := 1, constantValue := 0 }, { name := "TAU", type := .double, accessFlags := 25, slot := 2, constantValue := 0 }, { name := "DEGREES_TO_RADIANS", type := .double, accessFlags := 26, slot := 3, constantValue := 0 }, { name := "RADIANS_TO_DEGREES", type := .double, accessFlags := 26, slot := 4, constantValue := 0 }, { name := "negativeZeroFloatBits", type := .long, accessFlags := 26, slot := 5, constantValue := 0 }, { name := "negativeZeroDoubleBits", type := .long, accessFlags := 26, slot := 6, constantValue := 0 }, { name := "twoToTheDoubleScaleUp", type := .double, accessFlags := 8, slot := 7, constantValue := 0 }, { name := "twoToTheDoubleScaleDown", type := .double, accessFlags := 8, slot := 8, constantValue := 0 }, { name := "$assertionsDisabled", type := .boolean, accessFlags := 4120, slot := 9, constantValue := 0 }]
  methods := #[k3m0, k3m1]
  instanceTypes := #[]
  staticTypes := #[.double, .double, .double, .double, .double, .long, .long, .double, .double, .boolean]
  resolved := Array.replicate 460 none
  statics := none }

def pool4 : Array CpInfo := pool [(1, u "java/lang/Cloneable"), (0, .class_ 1), (0, u "java/lang/Object"), (0, .class_ 3)] 3

/-- java/lang/Cloneable -/
def k4 : Class := { plain "java/lang/Cloneable" (some 0) with
  accessFlags := 1537
  interfaces := #[]
  cf := some (fileOf pool4 2 #[] #[] 1537 4 #[] #[])
  fields := #[]
  methods := #[]
  instanceTypes := #[]
  staticTypes := #[]
  resolved := Array.replicate 8 none
  statics := none }

def pool5 : Array CpInfo := pool [(1, u "java/io/Serializable"), (0, .class_ 1), (0, u "java/lang/Object"), (0, .class_ 3)] 3

/-- java/io/Serializable -/
def k5 : Class := { plain "java/io/Serializable" (some 0) with
  accessFlags := 1537
  interfaces := #[]
  cf := some (fileOf pool5 2 #[] #[] 1537 4 #[] #[])
  fields := #[]
  methods := #[]
  instanceTypes := #[]
  staticTypes := #[]
  resolved := Array.replicate 8 none
  statics := none }

/-- the primitive byte -/
def k6 : Class := { plain "byte" none with kind := .primitive 'B', accessFlags := 0x411 }
/-- [B -/
def k7 : Class := { plain "[B" (some 0) with kind := .array 6 .byte, interfaces := #[4, 5], accessFlags := 1041 }

/-- the primitive int -/
def k8 : Class := { plain "int" none with kind := .primitive 'I', accessFlags := 0x411 }
/-- [I -/
def k9 : Class := { plain "[I" (some 0) with kind := .array 8 .int, interfaces := #[4, 5], accessFlags := 1041 }

def heap : Heap := #[]
def classes : Array Class := #[k0, k1, k2, k3, k4, k5, k6, k7, k8, k9]
def interned : List (Array UInt16 × Addr) := []
def slotsUsed : Nat := 0
def theMethod : MethodId := ⟨1, 2⟩
def args0 : Array Value := #[.long 5, .int 3]
def aboutOver (below : List Frame) : State where
  vm := { classes := classes, interned := interned.toArray }
  heap := heap
  slotsUsed := slotsUsed
  threads := #[{ frames := .invoking theMethod args0 :: below }]
def below0 : List Frame := [.native { method := ⟨0, 0⟩, args := #[] }]
def about1 : State := aboutOver below0
def p0 : Program := .bare "" "" ""
def e0 : Env := launch0.env 0 0 0
theorem w_frames : about1.frames = Frame.invoking theMethod args0 :: below0 := rfl
set_option maxRecDepth 65536 in
theorem w_args : argsFit about1.vm theMethod args0 = true := by decide +kernel
set_option maxRecDepth 65536 in
theorem w_heap : heapFits about1 = true := by decide +kernel
set_option maxRecDepth 65536 in
theorem w_runnable : about1.curStatus? = some .runnable := by decide +kernel
set_option maxRecDepth 65536 in
theorem w_alone : about1.alone = true := by decide +kernel
set_option maxRecDepth 65536 in
theorem w_named : about1.methodNamed? x = some theMethod := by decide +kernel
set_option maxRecDepth 65536 in
theorem w_hears : about1.hears theMethod below0 = true := by decide +kernel
set_option maxRecDepth 65536 in
theorem w_ripe : about1.ripe theMethod args0 below0 = true := by decide +kernel
theorem w_running : about1.status = .running := rfl
set_option maxRecDepth 65536 in
theorem w_room : about1.hasRoom e0.platform room_1 = true :=
  launch0.hasRoom_least _ room_1 (by decide +kernel) (by decide +kernel) (by decide +kernel) (by decide +kernel) (by decide +kernel) (by decide +kernel)
theorem allAtoms_all (ts : List Jvm.Cond) (a : Array Jvm.Value) (st : Jvm.State) : (allAtoms ts).before a st = ts.all (fun c => c.before a st) := by
  induction ts with
  | nil => rfl
  | cons c t ih =>
    show (Jvm.Cond.and c (allAtoms t)).before a st = _
    rw [Jvm.Cond.before_and, ih, List.all_cons]
def words1 : List Jvm.Cond := Jvm.Cond.code x code maxLocals ret :: tables_1
/-- a 'code' word, met by the world's own term for the bytes: nothing is compared byte by byte -/
theorem code_word {y : MethodName} {bytes : ByteArray} {mx : Nat} {rt : Option FieldType} {a : Array Value} {s : State} {m : MethodId} {meth : Method} {c : Code} (h1 : s.methodNamed? y = some m) (h2 : s.vm.method? m = some meth) (h3 : meth.code = some c) (h4 : c.code = bytes)
    (h5 : (c.maxLocals == mx && c.exceptionTable.isEmpty && decide (c.maxStack ≤ mostOperands) && decide (meth.sig.returnType = rt) && !meth.locks && decide (parseMethodDescriptor y.desc = some meth.sig)) = true) : (Jvm.Cond.code y bytes mx rt).before a s = true := by
  simp only [Bool.and_eq_true, beq_iff_eq, Bool.not_eq_true', decide_eq_true_eq] at h5
  obtain ⟨⟨⟨⟨⟨g1, g2⟩, g3⟩, g4⟩, g5⟩, g6⟩ := h5
  simp [Cond.before, Cond.holds, Cond.value, h1, h2, h3, h4, g1, g2, g3, g4, g5, g6]
def isCode : Jvm.Cond → Bool
  | .code _ _ _ _ => true
  | _ => false
theorem all_split {L : List Jvm.Cond} {P : Jvm.Cond → Bool} (h1 : L.all (fun c => isCode c || P c) = true) (h2 : ∀ c ∈ L.filter isCode, P c = true) : L.all P = true := by
  refine List.all_eq_true.mpr fun c hc => ?_
  have h := List.all_eq_true.mp h1 c hc
  rcases Bool.eq_false_or_eq_true (isCode c) with hi | hi
  · exact h2 c (List.mem_filter.mpr ⟨hc, hi⟩)
  · simpa [hi] using h
set_option maxRecDepth 65536 in
theorem w_c0 : (Jvm.Cond.code x code maxLocals ret).before args0 about1 = true := code_word (m := ⟨1, 2⟩) (meth := k1m2) (c := k1c2) (by decide +kernel) rfl rfl rfl (by decide +kernel)
set_option maxRecDepth 65536 in
theorem w_c1 : (Jvm.Cond.code ({ cls := "com/example/towerpath/towerpath/io/FieldValues", name := "isTime", desc := "(J)Z" } : Jvm.MethodName) prog_22_method_3_code (2 : Nat) (Option.some Jvm.ClassFile.FieldType.boolean)).before args0 about1 = true := code_word (m := ⟨2, 1⟩) (meth := k2m1) (c := k2c1) (by decide +kernel) rfl rfl rfl (by decide +kernel)
set_option maxRecDepth 65536 in
theorem w_c2 : (Jvm.Cond.code ({ cls := "com/example/towerpath/towerpath/io/FieldValuesIsTimePinLaw", name := "ref", desc := "(J)Z" } : Jvm.MethodName) method_2_code (2 : Nat) (Option.some Jvm.ClassFile.FieldType.boolean)).before args0 about1 = true := code_word (m := ⟨1, 1⟩) (meth := k1m1) (c := k1c1) (by decide +kernel) rfl rfl rfl (by decide +kernel)
set_option maxRecDepth 65536 in
theorem w_c3 : (Jvm.Cond.code ({ cls := "java/lang/Math", name := "abs", desc := "(J)J" } : Jvm.MethodName) jdk_29_method_61_code (2 : Nat) (Option.some Jvm.ClassFile.FieldType.long)).before args0 about1 = true := code_word (m := ⟨3, 1⟩) (meth := k3m1) (c := k3c1) (by decide +kernel) rfl rfl rfl (by decide +kernel)
def codes1 : List Jvm.Cond := [Jvm.Cond.code x code maxLocals ret, Jvm.Cond.code ({ cls := "com/example/towerpath/towerpath/io/FieldValues", name := "isTime", desc := "(J)Z" } : Jvm.MethodName) prog_22_method_3_code (2 : Nat) (Option.some Jvm.ClassFile.FieldType.boolean), Jvm.Cond.code ({ cls := "com/example/towerpath/towerpath/io/FieldValuesIsTimePinLaw", name := "ref", desc := "(J)Z" } : Jvm.MethodName) method_2_code (2 : Nat) (Option.some Jvm.ClassFile.FieldType.boolean), Jvm.Cond.code ({ cls := "java/lang/Math", name := "abs", desc := "(J)J" } : Jvm.MethodName) jdk_29_method_61_code (2 : Nat) (Option.some Jvm.ClassFile.FieldType.long)]
set_option maxRecDepth 65536 in
theorem codes_eq : words1.filter isCode = codes1 := rfl
theorem w_codes : ∀ c ∈ words1.filter isCode, c.before args0 about1 = true := by
  rw [codes_eq]
  intro c hc
  simp only [codes1, List.mem_cons, List.not_mem_nil, or_false] at hc
  rcases hc with rfl | rfl | rfl | rfl
  · exact w_c0
  · exact w_c1
  · exact w_c2
  · exact w_c3
set_option maxRecDepth 65536 in
theorem w_t1 : words1.all (fun c => isCode c || c.before args0 about1) = true := by decide +kernel
theorem w_tables : (allAtoms (Jvm.Cond.code x code maxLocals ret :: tables_1)).before args0 about1 = true := by
  rw [allAtoms_all]
  show words1.all (fun c => c.before args0 about1) = true
  refine all_split ?_ w_codes
  rw [w_t1]
set_option maxRecDepth 65536 in
theorem w_case : (Jvm.Cond.and given_1 narrow_1).before args0 about1 = true := by decide +kernel
theorem w_applies : (headSpec (Jvm.Cond.code x code maxLocals ret :: tables_1) room_1).applies x e0.platform about1 = true :=
  (Spec.applies_iff w_frames).mpr ⟨w_running, w_runnable, w_alone, w_named, w_hears, w_ripe, w_room, w_tables⟩
theorem atStart : AtStart classFile x code maxLocals ret World_1 tables_1 room_1 Calls_1 rest_1 Pre_1 launch0 p0 e0 about1 theMethod args0 below0 :=
  ⟨lists_1, trivial, launch0.admits_env _ _ _, launch0.least_env, fairChoices_fair.cas, fairChoices_fair.clock, w_frames, w_args, w_heap, w_applies, trivial, trivial, w_case⟩
end start1
theorem witness_1 : WitnessClaimed_1 := ⟨start1.p0, start1.e0, start1.about1, start1.theMethod, start1.args0, start1.below0, start1.atStart⟩
end Jvm.Pilot.@@N@@
