import JvmDerived
import JvmDerived.Pilot.@@N@@Statement
import JvmDerived.Pilot.@@N@@Code
set_option linter.unusedVariables false
set_option linter.unusedSimpArgs false
namespace Jvm.RoadKit
open Sem ClassFile Op Lib Jvm.Stand Jvm.Free Jvm.LawKit
section New
variable {p : Program} {l : Launch} {e : Env} {R : Room} {s : State} {m : MethodId} {args : Array Value} {below : List Frame} {meth : Method} {c : Code} {T : State} {locs : List Loc} {cells slots : Nat}
theorem retI (X : Stand p l e R s m args below meth c T locs cells slots) (hx : p.tables.exec = Jvm.exec) {pc : Nat} {Ls : Array Slot} {z : Int32} {rest : List Value} (hret : meth.sig.returnType = some .int) (hd : decode c.code pc = .ok (.ireturn, 1)) {fs : List Frame}
    (hl : ∀ (f : JFrame) (acts : List Action), f.method = m → f.locked = none → f.entered = [] → (doReturn e (T.setTop f) acts (some (.int z))).1 = T.setFrames fs) : Steps p.tables e below (T.setTop (mkF m pc Ls (.int z :: rest))) (T.setFrames fs) := by
  have hm' : T.vm.method? m = some meth := X.method'
  have hn : narrow .int (.int z) = .int z := rfl
  show Steps p.tables e below (T.setTop { method := m, pc := pc, locals := Ls, stack := _ :: rest, locked := none }) _
  jvm_step X.here [X.here.top, hx, hd, hm', hret, hn]
  first | (intro acts; rw [hl _ acts rfl rfl rfl]) | rw [hl _ _ rfl rfl rfl]
  exact Steps.refl _
end New
end Jvm.RoadKit
namespace Jvm.Pilot.@@N@@
open Jvm Jvm.ClassFile Sem Op Lib Jvm.Free Jvm.Stand Jvm.LawKit Jvm.RoadKit Bundle Jvm.Pilot.@@N@@.Jvm.D

theorem own_lt_t {x y : Int32} {a b : Int} (hx : x.toInt = a) (hy : y.toInt = b) (h : a < b) : if_icmp.holds .lt x y = true := (tlt (Int32.lt_iff_toInt_lt.mpr (by omega))).1
theorem own_lt_f {x y : Int32} {a b : Int} (hx : x.toInt = a) (hy : y.toInt = b) (h : ¬ (a < b)) : if_icmp.holds .lt x y = false := (flt (fun q => h (by have := Int32.lt_iff_toInt_lt.mp q; omega))).1
theorem own_ge_t {x y : Int32} {a b : Int} (hx : x.toInt = a) (hy : y.toInt = b) (h : ¬ (a < b)) : if_icmp.holds .ge x y = true := (flt (fun q => h (by have := Int32.lt_iff_toInt_lt.mp q; omega))).2.1
theorem own_ge_f {x y : Int32} {a b : Int} (hx : x.toInt = a) (hy : y.toInt = b) (h : a < b) : if_icmp.holds .ge x y = false := (tlt (Int32.lt_iff_toInt_lt.mpr (by omega))).2.1
theorem own_gt_t {x y : Int32} {a b : Int} (hx : x.toInt = a) (hy : y.toInt = b) (h : b < a) : if_icmp.holds .gt x y = true := (tlt (Int32.lt_iff_toInt_lt.mpr (by omega))).2.2.1
theorem own_gt_f {x y : Int32} {a b : Int} (hx : x.toInt = a) (hy : y.toInt = b) (h : ¬ (b < a)) : if_icmp.holds .gt x y = false := (flt (fun q => h (by have := Int32.lt_iff_toInt_lt.mp q; omega))).2.2.1
theorem own_le_t {x y : Int32} {a b : Int} (hx : x.toInt = a) (hy : y.toInt = b) (h : ¬ (b < a)) : if_icmp.holds .le x y = true := (flt (fun q => h (by have := Int32.lt_iff_toInt_lt.mp q; omega))).2.2.2
theorem own_le_f {x y : Int32} {a b : Int} (hx : x.toInt = a) (hy : y.toInt = b) (h : b < a) : if_icmp.holds .le x y = false := (tlt (Int32.lt_iff_toInt_lt.mpr (by omega))).2.2.2
theorem own_eq_t {x y : Int32} {a b : Int} (hx : x.toInt = a) (hy : y.toInt = b) (h : a = b) : if_icmp.holds .eq x y = true := (teq (Int32.toInt_inj.mp (by omega))).1
theorem own_eq_f {x y : Int32} {a b : Int} (hx : x.toInt = a) (hy : y.toInt = b) (h : ¬ (a = b)) : if_icmp.holds .eq x y = false := (feq (fun q => h (by rw [← hx, ← hy, q]))).1
theorem own_ne_t {x y : Int32} {a b : Int} (hx : x.toInt = a) (hy : y.toInt = b) (h : ¬ (a = b)) : if_icmp.holds .ne x y = true := (feq (fun q => h (by rw [← hx, ← hy, q]))).2
theorem own_ne_f {x y : Int32} {a b : Int} (hx : x.toInt = a) (hy : y.toInt = b) (h : a = b) : if_icmp.holds .ne x y = false := (teq (Int32.toInt_inj.mp (by omega))).2

theorem own_Llt_t {x y : Int64} {a b : Int} (hx : x.toInt = a) (hy : y.toInt = b) (h : a < b) : ifCond.holds .lt (lcmpW x y) = true := (if0 _ _).trans (tlt ((lw_lt x y).mpr (Int64.lt_iff_toInt_lt.mpr (by omega)))).1
theorem own_Llt_f {x y : Int64} {a b : Int} (hx : x.toInt = a) (hy : y.toInt = b) (h : ¬ (a < b)) : ifCond.holds .lt (lcmpW x y) = false := (if0 _ _).trans (flt (fun q => h (by have := Int64.lt_iff_toInt_lt.mp ((lw_lt x y).mp q); omega))).1
theorem own_Lge_t {x y : Int64} {a b : Int} (hx : x.toInt = a) (hy : y.toInt = b) (h : ¬ (a < b)) : ifCond.holds .ge (lcmpW x y) = true := (if0 _ _).trans (flt (fun q => h (by have := Int64.lt_iff_toInt_lt.mp ((lw_lt x y).mp q); omega))).2.1
theorem own_Lge_f {x y : Int64} {a b : Int} (hx : x.toInt = a) (hy : y.toInt = b) (h : a < b) : ifCond.holds .ge (lcmpW x y) = false := (if0 _ _).trans (tlt ((lw_lt x y).mpr (Int64.lt_iff_toInt_lt.mpr (by omega)))).2.1
theorem own_Lgt_t {x y : Int64} {a b : Int} (hx : x.toInt = a) (hy : y.toInt = b) (h : b < a) : ifCond.holds .gt (lcmpW x y) = true := (if0 _ _).trans (tlt ((lw_gt x y).mpr (Int64.lt_iff_toInt_lt.mpr (by omega)))).2.2.1
theorem own_Lgt_f {x y : Int64} {a b : Int} (hx : x.toInt = a) (hy : y.toInt = b) (h : ¬ (b < a)) : ifCond.holds .gt (lcmpW x y) = false := (if0 _ _).trans (flt (fun q => h (by have := Int64.lt_iff_toInt_lt.mp ((lw_gt x y).mp q); omega))).2.2.1
theorem own_Lle_t {x y : Int64} {a b : Int} (hx : x.toInt = a) (hy : y.toInt = b) (h : ¬ (b < a)) : ifCond.holds .le (lcmpW x y) = true := (if0 _ _).trans (flt (fun q => h (by have := Int64.lt_iff_toInt_lt.mp ((lw_gt x y).mp q); omega))).2.2.2
theorem own_Lle_f {x y : Int64} {a b : Int} (hx : x.toInt = a) (hy : y.toInt = b) (h : b < a) : ifCond.holds .le (lcmpW x y) = false := (if0 _ _).trans (tlt ((lw_gt x y).mpr (Int64.lt_iff_toInt_lt.mpr (by omega)))).2.2.2
theorem own_Leq_t {x y : Int64} {a b : Int} (hx : x.toInt = a) (hy : y.toInt = b) (h : a = b) : ifCond.holds .eq (lcmpW x y) = true := (if0 _ _).trans (teq ((lw_eq x y).mpr (Int64.toInt_inj.mp (by omega)))).1
theorem own_Leq_f {x y : Int64} {a b : Int} (hx : x.toInt = a) (hy : y.toInt = b) (h : ¬ (a = b)) : ifCond.holds .eq (lcmpW x y) = false := (if0 _ _).trans (feq (fun q => h (by rw [← hx, ← hy, (lw_eq x y).mp q]))).1
theorem own_Lne_t {x y : Int64} {a b : Int} (hx : x.toInt = a) (hy : y.toInt = b) (h : ¬ (a = b)) : ifCond.holds .ne (lcmpW x y) = true := (if0 _ _).trans (feq (fun q => h (by rw [← hx, ← hy, (lw_eq x y).mp q]))).2
theorem own_Lne_f {x y : Int64} {a b : Int} (hx : x.toInt = a) (hy : y.toInt = b) (h : a = b) : ifCond.holds .ne (lcmpW x y) = false := (if0 _ _).trans (teq ((lw_eq x y).mpr (Int64.toInt_inj.mp (by omega)))).2

theorem own_arr_keep {Z : State} {h h' : Heap} {a : Addr} {c : Cell} {ty : FieldType} {ws : List Addr} (A : Arr Z h a c ty) (K : Keep h h' ws) (q : a ∉ ws) : Arr Z h' a c ty := ⟨K.2.1 a c A.1 q, A.2⟩
def own_bit (x : Int32) : Int := (x &&& (128 : Int32)).toInt
def own_in (cl : Cell) : Prop := ∀ j : Int32, 0 ≤ j.toInt → j.toInt < 6 → ¬ (j < 0 ∨ cl.slots.size ≤ j.toNatClampNeg) ∧ cl.slots[j.toNatClampNeg]? = some (.int (atv cl j))
def own_bits (cl : Cell) : Prop := ∀ j : Int32, 0 < j.toInt → j.toInt < 6 → ((atv cl j) &&& (128 : Int32)).toInt = 0
def own_next (cl : Cell) (pos : Int32) : Int32 := if ((atv cl pos) &&& (128 : Int32)).toInt = 0 then pos + (1 : Int32) else (pos + (1 : Int32)) + (1 : Int32)
def own_at (c j : Int) : Int := if j = 0 then 0 else j + c
theorem own_at_0 (c : Int) : own_at c 0 = 0 := if_pos rfl
theorem own_at_s (c j : Int) (h : ¬ (j = 0)) : own_at c j = j + c := if_neg h
theorem own_add1 (x : Int32) (h : x.toInt < 100) : (x + (1 : Int32)).toInt = x.toInt + 1 := by
  have h1 := c_iadd x 1
  have h2 := rng32 (x + (1 : Int32))
  have h4 := rng32 x
  have h3 : (1 : Int32).toInt = 1 := by decide
  omega
theorem own_add1L (x : Int64) (h : x.toInt < 100) : (x + (1 : Int64)).toInt = x.toInt + 1 := by
  have h1 := c_ladd x 1
  have h2 := rng64 (x + (1 : Int64))
  have h4 := rng64 x
  have h3 : (1 : Int64).toInt = 1 := by decide
  omega
theorem own_pos {j : Int32} (h0 : 0 ≤ j.toInt) : ¬ j < 0 := fun q => by
  have h1 := Int32.lt_iff_toInt_lt.mp q
  have h2 : (0 : Int32).toInt = 0 := by decide
  omega
theorem own_all {cl : Cell} {x0 x1 x2 x3 x4 x5 : Int32} {d : Value} (S : cl.slots.size = (6 : Int32).toNatClampNeg) (H : Has cl [.int x0, .int x1, .int x2, .int x3, .int x4, .int x5] d) (b1 : own_bit x1 = 0) (b2 : own_bit x2 = 0) (b3 : own_bit x3 = 0) (b4 : own_bit x4 = 0) (b5 : own_bit x5 = 0) : own_in cl ∧ own_bits cl ∧ atv cl 0 = x0 := by
  have S6 : cl.slots.size = 6 := S
  have key : ∀ j : Int32, 0 ≤ j.toInt → j.toInt < 6 → ∃ x : Int32, cl.slots[j.toNatClampNeg]? = some (.int x) ∧ (0 < j.toInt → own_bit x = 0) ∧ (j.toInt = 0 → x = x0) := by
    intro j h0 h1
    have hn := nat_of (own_pos h0)
    have hc : j.toNatClampNeg = 0 ∨ j.toNatClampNeg = 1 ∨ j.toNatClampNeg = 2 ∨ j.toNatClampNeg = 3 ∨ j.toNatClampNeg = 4 ∨ j.toNatClampNeg = 5 := by omega
    rcases hc with q | q | q | q | q | q <;> rw [q]
    · exact ⟨x0, H 0 (by omega), fun z => absurd z (by omega), fun _ => rfl⟩
    · exact ⟨x1, H 1 (by omega), fun _ => b1, fun z => absurd z (by omega)⟩
    · exact ⟨x2, H 2 (by omega), fun _ => b2, fun z => absurd z (by omega)⟩
    · exact ⟨x3, H 3 (by omega), fun _ => b3, fun z => absurd z (by omega)⟩
    · exact ⟨x4, H 4 (by omega), fun _ => b4, fun z => absurd z (by omega)⟩
    · exact ⟨x5, H 5 (by omega), fun _ => b5, fun z => absurd z (by omega)⟩
  refine ⟨fun j h0 h1 => ?_, fun j h0 h1 => ?_, ?_⟩
  · obtain ⟨x, hx, -⟩ := key j h0 h1
    have hn := nat_of (own_pos h0)
    refine ⟨?_, ?_⟩
    · rintro (q | q)
      · exact own_pos h0 q
      · omega
    · rw [atv_of hx]; exact hx
  · obtain ⟨x, hx, hb, -⟩ := key j (by omega) h1
    rw [atv_of hx]; exact hb h0
  · obtain ⟨x, hx, -, hb⟩ := key 0 (by decide) (by decide)
    rw [atv_of hx]; exact hb (by decide)
theorem own_b0 : ∀ n : Fin 128, own_bit (nar .byte ((Int32.ofNat n.1 ||| (0 : Int32)).toInt8.toInt32)) = 0 := by decide +kernel
theorem own_b1 : ∀ n : Fin 128, ¬ (own_bit (nar .byte ((Int32.ofNat n.1 ||| (128 : Int32)).toInt8.toInt32)) = 0) := by decide +kernel
theorem own_bl : ∀ n : Fin 128, own_bit (nar .byte ((Int64.ofNat n.1).toInt32.toInt8.toInt32)) = 0 := by decide +kernel
theorem own_mI (x : Int32) : ∃ n : Fin 128, x &&& (127 : Int32) = Int32.ofNat n.1 := by
  have h := c_mask x (127 : Int32) 7 (by decide) (by decide)
  have h2 : (((2 ^ 7 : Nat)) : Int) = 128 := rfl
  rw [h2] at h
  refine ⟨⟨(x &&& (127 : Int32)).toInt.toNat, by omega⟩, Int32.toInt_inj.mp ?_⟩
  rw [Int32.toInt_ofNat_small (by show (x &&& (127 : Int32)).toInt.toNat < _; omega)]
  show _ = (((x &&& (127 : Int32)).toInt.toNat : Nat) : Int)
  omega
theorem own_mL (x : Int64) : ∃ n : Fin 128, x &&& (127 : Int64) = Int64.ofNat n.1 := by
  have h := c_maskL x (127 : Int64) 7 (by decide) (by decide)
  have h2 : (((2 ^ 7 : Nat)) : Int) = 128 := rfl
  rw [h2] at h
  refine ⟨⟨(x &&& (127 : Int64)).toInt.toNat, by omega⟩, Int64.toInt_inj.mp ?_⟩
  rw [Int64.toInt_ofNat_of_lt (by show (x &&& (127 : Int64)).toInt.toNat < _; omega)]
  show _ = (((x &&& (127 : Int64)).toInt.toNat : Nat) : Int)
  omega
theorem own_bitL (x : Int64) : own_bit (nar .byte ((x &&& (127 : Int64)).toInt32.toInt8.toInt32)) = 0 := by
  obtain ⟨n, hn⟩ := own_mL x
  rw [hn]; exact own_bl n
theorem own_bit0 (x : Int32) : own_bit (nar .byte (((x &&& (127 : Int32)) ||| (0 : Int32)).toInt8.toInt32)) = 0 := by
  obtain ⟨n, hn⟩ := own_mI x
  rw [hn]; exact own_b0 n
theorem own_bit1 (x : Int32) : ¬ (own_bit (nar .byte (((x &&& (127 : Int32)) ||| (128 : Int32)).toInt8.toInt32)) = 0) := by
  obtain ⟨n, hn⟩ := own_mI x
  rw [hn]; exact own_b1 n
def own_v3 (p n : Int32) : Int32 := if p.toInt < n.toInt then 1 else 0
theorem own_v3_01 (p n : Int32) : ((own_v3 p n).toInt = 0 ∧ ¬ (p.toInt < n.toInt)) ∨ ((own_v3 p n).toInt = 1 ∧ p.toInt < n.toInt) := by
  unfold own_v3
  by_cases h : p.toInt < n.toInt
  · rw [if_pos h]; exact Or.inr ⟨by decide, h⟩
  · rw [if_neg h]; exact Or.inl ⟨by decide, h⟩
def own_v4 (x y : Int32) : Int32 := if y.toInt < x.toInt then y else x
theorem own_v4_s (x y : Int32) : (y.toInt < x.toInt ∧ (own_v4 x y).toInt = y.toInt) ∨ (¬ (y.toInt < x.toInt) ∧ (own_v4 x y).toInt = x.toInt) := by
  unfold own_v4
  by_cases h : y.toInt < x.toInt
  · rw [if_pos h]; exact Or.inl ⟨h, rfl⟩
  · rw [if_neg h]; exact Or.inr ⟨h, rfl⟩

theorem d1_0 : decode prog_42_method_2_code 0 = .ok (.aload_n 0, 1) := by decide +kernel
theorem d1_1 : decode prog_42_method_2_code 1 = .ok (.invokespecial 7, 3) := by decide +kernel
theorem d1_4 : decode prog_42_method_2_code 4 = .ok (.aload_n 0, 1) := by decide +kernel
theorem d1_5 : decode prog_42_method_2_code 5 = .ok (.aload_n 1, 1) := by decide +kernel
theorem d1_6 : decode prog_42_method_2_code 6 = .ok (.putfield 12, 3) := by decide +kernel
theorem d1_9 : decode prog_42_method_2_code 9 = .ok (.aload_n 0, 1) := by decide +kernel
theorem d1_10 : decode prog_42_method_2_code 10 = .ok (.iload_n 2, 1) := by decide +kernel
theorem d1_11 : decode prog_42_method_2_code 11 = .ok (.putfield 16, 3) := by decide +kernel
theorem d1_14 : decode prog_42_method_2_code 14 = .ok (.return_, 1) := by decide +kernel
theorem pn_1 : plainName "com/example/pesquisa/pesquisa/index/ByteSource" = true := by first | (simp [plainName, overriddenIn]; done) | decide +kernel
theorem ef_1 (m : MethodId) (a1 : Addr) (a2 : Addr) (p3 : Int32) : entryFrame m #[(.ref a1), (.ref a2), (.int p3)] 3 = mkF m 0 #[.val (.ref a1), .val (.ref a2), .val (.int p3)] [] := by first | (simp [entryFrame, mkF, argsToLocals, Value.category]; done) | rfl
def Q1 (Z : State) (a1 : Addr) (a2 : Addr) (p3 : Int32) (h0 : Heap) (n0 : Nat) (v : Option Value) (h : Heap) (L : List Loc) : Prop := v = none ∧ Fr n0 L ∧ Keep h0 h [a1] ∧ Exa Z h a1 "com/example/pesquisa/pesquisa/index/ByteSource" ∧ Fld Z h a1 "com/example/pesquisa/pesquisa/index/ByteSource" "bytes" "[B" (.ref a2) ∧ Fld Z h a1 "com/example/pesquisa/pesquisa/index/ByteSource" "end" "I" (.int p3) ∧ Fld Z h a1 "com/example/pesquisa/pesquisa/index/ByteSource" "position" "I" (.int (0 : Int32))
set_option maxRecDepth 65536 in
set_option maxHeartbeats 40000000 in
theorem rm1 (l : Launch) (Z : State) (a0 : Array Value) (hw : ∀ d ∈ tables_1, d.before a0 Z = true) (ws : List Jvm.Cond) (a1 : Addr) (a2 : Addr) (p3 : Int32) (h0 : Heap) (n0 : Nat) (Z0 : n0 ≤ h0.size) (E_a1 : Exa Z h0 a1 "com/example/pesquisa/pesquisa/index/ByteSource") (F_bytes : Fld Z h0 a1 "com/example/pesquisa/pesquisa/index/ByteSource" "bytes" "[B" .null) (F_end : Fld Z h0 a1 "com/example/pesquisa/pesquisa/index/ByteSource" "end" "I" (.int (0 : Int32))) (F_position : Fld Z h0 a1 "com/example/pesquisa/pesquisa/index/ByteSource" "position" "I" (.int (0 : Int32))) (g_a1 : n0 ≤ a1) :
    MetFree l (⟨"com/example/pesquisa/pesquisa/index/ByteSource", "<init>", "([BI)V"⟩ : MethodName) (head1 (Jvm.Cond.code (⟨"com/example/pesquisa/pesquisa/index/ByteSource", "<init>", "([BI)V"⟩ : MethodName) prog_42_method_2_code 3 none :: ws) ({ frames := 1, cells := 0, slots := 0, locals := 12 } : Room)) (fun a U => a = #[(.ref a1), (.ref a2), (.int p3)] ∧ Z.Warmed39 U.vm ∧ U.heap = h0) (fun _ _ _ _ _ => True) (fun _ U o U' => ∃ v L, o = .returned v ∧ Q1 Z a1 a2 p3 h0 n0 v U'.heap L ∧ FrameEnd U o U' L ({ frames := 1, cells := 0, slots := 0, locals := 12 } : Room).cells ({ frames := 1, cells := 0, slots := 0, locals := 12 } : Room).slots) := by
  refine MetFree.of_bodySF (plainFor_of_name pn_1) hisR ?_
  intro p e s m args below meth c s₁ Bd hml0 hP hK
  obtain ⟨rfl, hZ, hh⟩ := hP
  have hx := Bd.exec
  have hby := Bd.bytes
  have hml : c.maxLocals = 3 := hml0
  have hown : s.vm.findClass "com/example/pesquisa/pesquisa/index/ByteSource" = some m.cls := findClass_of_methodNamed Bd.named
  have hnm := (name_of_methodNamed Bd.named Bd.method).1
  have X0 : Stand p l e ({ frames := 1, cells := 0, slots := 0, locals := 12 } : Room) s m #[(.ref a1), (.ref a2), (.int p3)] below meth c s₁ [] 0 0 := Stand.of_body Bd
  have e0 : s₁.heap = h0 := by rw [← hh, Bd.state]; rfl
  have N0 := Fr.nil n0
  have pre0 : ∀ t, Steps p.tables e below (s₁.setTop (mkF m 0 #[.val (.ref a1), .val (.ref a2), .val (.int p3)] [])) t → Steps p.tables e below (s₁.setTop (entryFrame m #[(.ref a1), (.ref a2), (.int p3)] 3)) t := fun t k => castTop (ef_1 m a1 a2 p3) k
  obtain ⟨T101, X101, e101, st101⟩ := initO X0 hx hZ hown (hw _ (List.mem_of_getElem? (i := 9) rfl)) (hw _ (List.mem_of_getElem? (i := 10) rfl)) (hw _ (List.mem_of_getElem? (i := 11) rfl)) e0 (g := (mkF m 1 #[.val (.ref a1), .val (.ref a2), .val (.int p3)] [(.ref a1)])) rfl (by rw [hml]; rfl) rfl (hb hby d1_1) (by decide) (W := 0) (by show 2 * 0 + _ ≤ _; exact Nat.le_of_eq rfl) (by decide)
  obtain ⟨T102, h102, X102, e102, W102, st102⟩ := putF X101 hx hZ hown (host := "") (Or.inl (hw _ (List.mem_of_getElem? (i := 12) rfl))) Via.refl e101 F_bytes E_a1 (Or.inr ⟨(hw _ (List.mem_of_getElem? (i := 13) rfl)), rfl, hnm⟩) (hw _ (List.mem_of_getElem? (i := 4) rfl)) (ty := (.array .byte)) (by decide) rfl rfl (g := (mkF m 6 #[.val (.ref a1), .val (.ref a2), .val (.int p3)] [(.ref a2), (.ref a1)])) rfl rfl (hb hby d1_6)
  have E103 := E_a1.wr W102
  have F104 := F_end.other W102 (Or.inr (slot_ne (Or.inr (hw _ (List.mem_of_getElem? (i := 15) rfl))) (Or.inr (hw _ (List.mem_of_getElem? (i := 13) rfl))) (by decide) (t := .int) (t' := (.array .byte)) (by decide) (by decide)))
  have F105 := F_position.other W102 (Or.inr (slot_ne (Or.inl (hw _ (List.mem_of_getElem? (i := 22) rfl))) (Or.inr (hw _ (List.mem_of_getElem? (i := 13) rfl))) (by decide) (t := .int) (t' := (.array .byte)) (by decide) (by decide)))
  have Fw102 := F_bytes.same W102
  have N102 := Fr.snoc X102 N0 g_a1
  have K102 := (Keep.refl h0 [a1]).wr W102 (Or.inl (List.mem_of_getElem? (i := 0) rfl))
  have Z102 : n0 ≤ h102.size := (Nat.le_trans Z0 (Keep.of_wr W102).1)
  obtain ⟨T106, h106, X106, e106, W106, st106⟩ := putF X102 hx hZ hown (host := "") (Or.inl (hw _ (List.mem_of_getElem? (i := 14) rfl))) Via.refl e102 F104 E103 (Or.inr ⟨(hw _ (List.mem_of_getElem? (i := 15) rfl)), rfl, hnm⟩) (hw _ (List.mem_of_getElem? (i := 4) rfl)) (ty := .int) (by decide) rfl rfl (g := (mkF m 11 #[.val (.ref a1), .val (.ref a2), .val (.int p3)] [(.int p3), (.ref a1)])) rfl rfl (hb hby d1_11)
  have E107 := E103.wr W106
  have F108 := Fw102.other W106 (Or.inr (slot_ne (Or.inr (hw _ (List.mem_of_getElem? (i := 13) rfl))) (Or.inr (hw _ (List.mem_of_getElem? (i := 15) rfl))) (by decide) (t := (.array .byte)) (t' := .int) (by decide) (by decide)))
  have F109 := F105.other W106 (Or.inr (slot_ne (Or.inl (hw _ (List.mem_of_getElem? (i := 22) rfl))) (Or.inr (hw _ (List.mem_of_getElem? (i := 15) rfl))) (by decide) (t := .int) (t' := .int) (by decide) (by decide)))
  have Fw106 := F104.same W106
  have N106 := Fr.snoc X106 N102 g_a1
  have K106 := K102.wr W106 (Or.inl (List.mem_of_getElem? (i := 0) rfl))
  have Z106 : n0 ≤ h106.size := (Nat.le_trans Z102 (Keep.of_wr W106).1)
  have pre110 : ∀ t, Steps p.tables e below (T106.setTop (mkF m 14 #[.val (.ref a1), .val (.ref a2), .val (.int p3)] [])) t → Steps p.tables e below (s₁.setTop (entryFrame m #[(.ref a1), (.ref a2), (.int p3)] 3)) t := fun t9 k9 => pre0 t9 (by
      show Steps p.tables e below (s₁.setTop (mkF m 0 #[.val (.ref a1), .val (.ref a2), .val (.int p3)] [])) _
      refine XS.aloadN X0.here hx rfl (hb hby d1_0) rfl rfl ?_
      show Steps p.tables e below (s₁.setTop (mkF m 1 #[.val (.ref a1), .val (.ref a2), .val (.int p3)] [(.ref a1)])) _
      refine st101 _ ?_
      show Steps p.tables e below (T101.setTop (mkF m 4 #[.val (.ref a1), .val (.ref a2), .val (.int p3)] [])) _
      refine XS.aloadN X101.here hx rfl (hb hby d1_4) rfl rfl ?_
      show Steps p.tables e below (T101.setTop (mkF m 5 #[.val (.ref a1), .val (.ref a2), .val (.int p3)] [(.ref a1)])) _
      refine XS.aloadN X101.here hx rfl (hb hby d1_5) rfl rfl ?_
      show Steps p.tables e below (T101.setTop (mkF m 6 #[.val (.ref a1), .val (.ref a2), .val (.int p3)] [(.ref a2), (.ref a1)])) _
      refine st102 _ ?_
      show Steps p.tables e below (T102.setTop (mkF m 9 #[.val (.ref a1), .val (.ref a2), .val (.int p3)] [])) _
      refine XS.aloadN X102.here hx rfl (hb hby d1_9) rfl rfl ?_
      show Steps p.tables e below (T102.setTop (mkF m 10 #[.val (.ref a1), .val (.ref a2), .val (.int p3)] [(.ref a1)])) _
      refine XS.iloadN X102.here hx rfl (hb hby d1_10) rfl ?_
      show Steps p.tables e below (T102.setTop (mkF m 11 #[.val (.ref a1), .val (.ref a2), .val (.int p3)] [(.int p3), (.ref a1)])) _
      refine st106 _ ?_
      exact k9)
  obtain ⟨fs, hr, hrun, hended, hW, hsame⟩ := X106.leave (v := none) (fun _ => rfl)
  refine ⟨_, _, pre110 _ ?_, hrun, hended, _, _, rfl, ?_, ⟨_, rfl⟩, hW, hsame.mono (by decide) (by decide)⟩
  · show Steps p.tables e below (T106.setTop (mkF m 14 #[.val (.ref a1), .val (.ref a2), .val (.int p3)] [])) _
    exact X106.returnOut hx Bd.returns (hb hby d1_14) hr
  · show Q1 Z a1 a2 p3 h0 n0 _ T106.heap _
    rw [e106]
    exact ⟨rfl, N106, K106, E107, F108, Fw106, F109⟩
theorem d3_0 : decode prog_42_method_8_code 0 = .ok (.aload_n 0, 1) := by decide +kernel
theorem d3_1 : decode prog_42_method_8_code 1 = .ok (.getfield 20, 3) := by decide +kernel
theorem d3_4 : decode prog_42_method_8_code 4 = .ok (.aload_n 0, 1) := by decide +kernel
theorem d3_5 : decode prog_42_method_8_code 5 = .ok (.getfield 16, 3) := by decide +kernel
theorem d3_8 : decode prog_42_method_8_code 8 = .ok (.if_icmp .ge 7, 3) := by decide +kernel
theorem d3_11 : decode prog_42_method_8_code 11 = .ok (.iconst 1, 1) := by decide +kernel
theorem d3_12 : decode prog_42_method_8_code 12 = .ok (.goto 4, 3) := by decide +kernel
theorem d3_15 : decode prog_42_method_8_code 15 = .ok (.iconst 0, 1) := by decide +kernel
theorem d3_16 : decode prog_42_method_8_code 16 = .ok (.ireturn, 1) := by decide +kernel
theorem pn_3 : plainName "com/example/pesquisa/pesquisa/index/ByteSource" = true := by first | (simp [plainName, overriddenIn]; done) | decide +kernel
theorem ef_3 (m : MethodId) (a1 : Addr) : entryFrame m #[(.ref a1)] 1 = mkF m 0 #[.val (.ref a1)] [] := by first | (simp [entryFrame, mkF, argsToLocals, Value.category]; done) | rfl
def Q3 (Z : State) (a1 : Addr) (n pos : Int32) (h0 : Heap) (n0 : Nat) (v : Option Value) (h : Heap) (L : List Loc) : Prop := v = some (.int (own_v3 pos n)) ∧ Fr n0 L ∧ h = h0
set_option maxRecDepth 65536 in
set_option maxHeartbeats 40000000 in
theorem rm3 (l : Launch) (Z : State) (a0 : Array Value) (hw : ∀ d ∈ tables_1, d.before a0 Z = true) (ws : List Jvm.Cond) (a1 : Addr) (n pos : Int32) (h0 : Heap) (n0 : Nat) (Z0 : n0 ≤ h0.size) (F_end : Fld Z h0 a1 "com/example/pesquisa/pesquisa/index/ByteSource" "end" "I" (.int n)) (F_position : Fld Z h0 a1 "com/example/pesquisa/pesquisa/index/ByteSource" "position" "I" (.int pos)) :
    MetFree l (⟨"com/example/pesquisa/pesquisa/index/ByteSource", "hasMore", "()Z"⟩ : MethodName) (head1 (Jvm.Cond.code (⟨"com/example/pesquisa/pesquisa/index/ByteSource", "hasMore", "()Z"⟩ : MethodName) prog_42_method_8_code 1 (some .boolean) :: ws) ({ frames := 0, cells := 0, slots := 0, locals := 0 } : Room)) (fun a U => a = #[(.ref a1)] ∧ Z.Warmed39 U.vm ∧ U.heap = h0) (fun _ _ _ _ _ => True) (fun _ U o U' => ∃ v L, o = .returned v ∧ Q3 Z a1 n pos h0 n0 v U'.heap L ∧ FrameEnd U o U' L ({ frames := 0, cells := 0, slots := 0, locals := 0 } : Room).cells ({ frames := 0, cells := 0, slots := 0, locals := 0 } : Room).slots) := by
  refine MetFree.of_bodySF (plainFor_of_name pn_3) hisR ?_
  intro p e s m args below meth c s₁ Bd hml0 hP hK
  obtain ⟨rfl, hZ, hh⟩ := hP
  have hx := Bd.exec
  have hby := Bd.bytes
  have hml : c.maxLocals = 1 := hml0
  have hown : s.vm.findClass "com/example/pesquisa/pesquisa/index/ByteSource" = some m.cls := findClass_of_methodNamed Bd.named
  have hnm := (name_of_methodNamed Bd.named Bd.method).1
  have X0 : Stand p l e ({ frames := 0, cells := 0, slots := 0, locals := 0 } : Room) s m #[(.ref a1)] below meth c s₁ [] 0 0 := Stand.of_body Bd
  have e0 : s₁.heap = h0 := by rw [← hh, Bd.state]; rfl
  have N0 := Fr.nil n0
  have pre0 : ∀ t, Steps p.tables e below (s₁.setTop (mkF m 0 #[.val (.ref a1)] [])) t → Steps p.tables e below (s₁.setTop (entryFrame m #[(.ref a1)] 1)) t := fun t k => castTop (ef_3 m a1) k
  obtain ⟨T101, X101, e101, st101⟩ := getF X0 hx hZ hown (host := "") (Or.inl (hw _ (List.mem_of_getElem? (i := 21) rfl))) Via.refl e0 F_position (g := (mkF m 1 #[.val (.ref a1)] [(.ref a1)])) rfl rfl (hb hby d3_1)
  obtain ⟨T102, X102, e102, st102⟩ := getF X101 hx hZ hown (host := "") (Or.inl (hw _ (List.mem_of_getElem? (i := 14) rfl))) Via.refl e101 F_end (g := (mkF m 5 #[.val (.ref a1)] [(.ref a1), (.int pos)])) rfl rfl (hb hby d3_5)
  have pre103 : ∀ t, Steps p.tables e below (T102.setTop (mkF m 8 #[.val (.ref a1)] [(.int n), (.int pos)])) t → Steps p.tables e below (s₁.setTop (entryFrame m #[(.ref a1)] 1)) t := fun t9 k9 => pre0 t9 (by
      show Steps p.tables e below (s₁.setTop (mkF m 0 #[.val (.ref a1)] [])) _
      refine XS.aloadN X0.here hx rfl (hb hby d3_0) rfl rfl ?_
      show Steps p.tables e below (s₁.setTop (mkF m 1 #[.val (.ref a1)] [(.ref a1)])) _
      refine st101 _ ?_
      show Steps p.tables e below (T101.setTop (mkF m 4 #[.val (.ref a1)] [(.int pos)])) _
      refine XS.aloadN X101.here hx rfl (hb hby d3_4) rfl rfl ?_
      show Steps p.tables e below (T101.setTop (mkF m 5 #[.val (.ref a1)] [(.ref a1), (.int pos)])) _
      refine st102 _ ?_
      exact k9)
  by_cases b104 : pos.toInt < n.toInt
  · have pre105 : ∀ t, Steps p.tables e below (T102.setTop (mkF m 16 #[.val (.ref a1)] [(.int (1 : Int32))])) t → Steps p.tables e below (s₁.setTop (entryFrame m #[(.ref a1)] 1)) t := fun t9 k9 => pre103 t9 (by
        show Steps p.tables e below (T102.setTop (mkF m 8 #[.val (.ref a1)] [(.int n), (.int pos)])) _
        refine XS.icmpNo X102.here hx rfl (hb hby d3_8) rfl (own_ge_f (a := pos.toInt) (b := n.toInt) rfl rfl b104) ?_
        show Steps p.tables e below (T102.setTop (mkF m 11 #[.val (.ref a1)] [])) _
        refine XS.iconst X102.here hx rfl (hb hby d3_11) ?_
        show Steps p.tables e below (T102.setTop (mkF m 12 #[.val (.ref a1)] [(.int (1 : Int32))])) _
        refine XS.goto X102.here hx rfl (pc0 := 12) (pc' := 16) rfl (hb hby d3_12) (by decide) (by decide) ?_
        exact k9)
    have hv : own_v3 pos n = (1 : Int32) := by unfold own_v3; exact if_pos (by omega)
    obtain ⟨fs, hr, hrun, hended, hW, hsame⟩ := X102.leave (v := some (.int (1 : Int32))) (fun h => by rw [Bd.returns] at h; cases h)
    refine ⟨_, _, pre105 _ ?_, hrun, hended, _, _, rfl, ?_, ⟨_, rfl⟩, hW, hsame.mono (by decide) (by decide)⟩
    · show Steps p.tables e below (T102.setTop (mkF m 16 #[.val (.ref a1)] [(.int (1 : Int32))])) _
      exact retN X102 hx (t := .boolean) Bd.returns (by simp) (hb hby d3_16) hr
    · show Q3 Z a1 n pos h0 n0 _ T102.heap _
      rw [e102]
      exact ⟨by rw [hv], N0, rfl⟩
  · have pre106 : ∀ t, Steps p.tables e below (T102.setTop (mkF m 16 #[.val (.ref a1)] [(.int (0 : Int32))])) t → Steps p.tables e below (s₁.setTop (entryFrame m #[(.ref a1)] 1)) t := fun t9 k9 => pre103 t9 (by
        show Steps p.tables e below (T102.setTop (mkF m 8 #[.val (.ref a1)] [(.int n), (.int pos)])) _
        refine XS.icmpYes X102.here hx rfl (pc0 := 8) (pc' := 15) rfl (hb hby d3_8) rfl (own_ge_t (a := pos.toInt) (b := n.toInt) rfl rfl b104) (by decide) (by decide) ?_
        show Steps p.tables e below (T102.setTop (mkF m 15 #[.val (.ref a1)] [])) _
        refine XS.iconst X102.here hx rfl (hb hby d3_15) ?_
        exact k9)
    have hv : own_v3 pos n = (0 : Int32) := by unfold own_v3; exact if_neg (by omega)
    obtain ⟨fs, hr, hrun, hended, hW, hsame⟩ := X102.leave (v := some (.int (0 : Int32))) (fun h => by rw [Bd.returns] at h; cases h)
    refine ⟨_, _, pre106 _ ?_, hrun, hended, _, _, rfl, ?_, ⟨_, rfl⟩, hW, hsame.mono (by decide) (by decide)⟩
    · show Steps p.tables e below (T102.setTop (mkF m 16 #[.val (.ref a1)] [(.int (0 : Int32))])) _
      exact retN X102 hx (t := .boolean) Bd.returns (by simp) (hb hby d3_16) hr
    · show Q3 Z a1 n pos h0 n0 _ T102.heap _
      rw [e102]
      exact ⟨by rw [hv], N0, rfl⟩
theorem d4_0 : decode jdk_29_method_69_code 0 = .ok (.iload_n 0, 1) := by decide +kernel
theorem d4_1 : decode jdk_29_method_69_code 1 = .ok (.iload_n 1, 1) := by decide +kernel
theorem d4_2 : decode jdk_29_method_69_code 2 = .ok (.if_icmp .gt 7, 3) := by decide +kernel
theorem d4_5 : decode jdk_29_method_69_code 5 = .ok (.iload_n 0, 1) := by decide +kernel
theorem d4_6 : decode jdk_29_method_69_code 6 = .ok (.goto 4, 3) := by decide +kernel
theorem d4_9 : decode jdk_29_method_69_code 9 = .ok (.iload_n 1, 1) := by decide +kernel
theorem d4_10 : decode jdk_29_method_69_code 10 = .ok (.ireturn, 1) := by decide +kernel
theorem ef_4 (m : MethodId) (p1 : Int32) (p2 : Int32) : entryFrame m #[(.int p1), (.int p2)] 2 = mkF m 0 #[.val (.int p1), .val (.int p2)] [] := by first | (simp [entryFrame, mkF, argsToLocals, Value.category]; done) | rfl
def Q4 (Z : State) (p1 : Int32) (p2 : Int32) (h0 : Heap) (n0 : Nat) (v : Option Value) (h : Heap) (L : List Loc) : Prop := v = some (.int (own_v4 p1 p2)) ∧ Fr n0 L ∧ h = h0
set_option maxRecDepth 65536 in
set_option maxHeartbeats 40000000 in
theorem rm4 (l : Launch) (Z : State) (a0 : Array Value) (hw : ∀ d ∈ tables_1, d.before a0 Z = true) (ws : List Jvm.Cond) (p1 : Int32) (p2 : Int32) (h0 : Heap) (n0 : Nat) (Z0 : n0 ≤ h0.size)  :
    MetFree l (⟨"java/lang/Math", "min", "(II)I"⟩ : MethodName) (head1 (Jvm.Cond.code (⟨"java/lang/Math", "min", "(II)I"⟩ : MethodName) jdk_29_method_69_code 2 (some .int) :: ws) ({ frames := 0, cells := 0, slots := 0, locals := 0 } : Room)) (fun a U => a = #[(.int p1), (.int p2)] ∧ Z.Warmed39 U.vm ∧ U.heap = h0) (fun _ _ _ _ _ => True) (fun _ U o U' => ∃ v L, o = .returned v ∧ Q4 Z p1 p2 h0 n0 v U'.heap L ∧ FrameEnd U o U' L ({ frames := 0, cells := 0, slots := 0, locals := 0 } : Room).cells ({ frames := 0, cells := 0, slots := 0, locals := 0 } : Room).slots) := by
  refine MetFree.of_bodySF (Jvm.Free.JP.mathPlain rfl (by decide +kernel)) hisR ?_
  intro p e s m args below meth c s₁ Bd hml0 hP hK
  obtain ⟨rfl, hZ, hh⟩ := hP
  have hx := Bd.exec
  have hby := Bd.bytes
  have hml : c.maxLocals = 2 := hml0
  have hown : s.vm.findClass "java/lang/Math" = some m.cls := findClass_of_methodNamed Bd.named
  have hnm := (name_of_methodNamed Bd.named Bd.method).1
  have X0 : Stand p l e ({ frames := 0, cells := 0, slots := 0, locals := 0 } : Room) s m #[(.int p1), (.int p2)] below meth c s₁ [] 0 0 := Stand.of_body Bd
  have e0 : s₁.heap = h0 := by rw [← hh, Bd.state]; rfl
  have N0 := Fr.nil n0
  have pre0 : ∀ t, Steps p.tables e below (s₁.setTop (mkF m 0 #[.val (.int p1), .val (.int p2)] [])) t → Steps p.tables e below (s₁.setTop (entryFrame m #[(.int p1), (.int p2)] 2)) t := fun t k => castTop (ef_4 m p1 p2) k
  have pre101 : ∀ t, Steps p.tables e below (s₁.setTop (mkF m 2 #[.val (.int p1), .val (.int p2)] [(.int p2), (.int p1)])) t → Steps p.tables e below (s₁.setTop (entryFrame m #[(.int p1), (.int p2)] 2)) t := fun t9 k9 => pre0 t9 (by
      show Steps p.tables e below (s₁.setTop (mkF m 0 #[.val (.int p1), .val (.int p2)] [])) _
      refine XS.iloadN X0.here hx rfl (hb hby d4_0) rfl ?_
      show Steps p.tables e below (s₁.setTop (mkF m 1 #[.val (.int p1), .val (.int p2)] [(.int p1)])) _
      refine XS.iloadN X0.here hx rfl (hb hby d4_1) rfl ?_
      exact k9)
  by_cases b102 : p2.toInt < p1.toInt
  · have pre103 : ∀ t, Steps p.tables e below (s₁.setTop (mkF m 10 #[.val (.int p1), .val (.int p2)] [(.int p2)])) t → Steps p.tables e below (s₁.setTop (entryFrame m #[(.int p1), (.int p2)] 2)) t := fun t9 k9 => pre101 t9 (by
        show Steps p.tables e below (s₁.setTop (mkF m 2 #[.val (.int p1), .val (.int p2)] [(.int p2), (.int p1)])) _
        refine XS.icmpYes X0.here hx rfl (pc0 := 2) (pc' := 9) rfl (hb hby d4_2) rfl (own_gt_t (a := p1.toInt) (b := p2.toInt) rfl rfl b102) (by decide) (by decide) ?_
        show Steps p.tables e below (s₁.setTop (mkF m 9 #[.val (.int p1), .val (.int p2)] [])) _
        refine XS.iloadN X0.here hx rfl (hb hby d4_9) rfl ?_
        exact k9)
    have hv : own_v4 p1 p2 = p2 := by unfold own_v4; exact if_pos (by omega)
    obtain ⟨fs, hr, hrun, hended, hW, hsame⟩ := X0.leave (v := some (.int p2)) (fun h => by rw [Bd.returns] at h; cases h)
    refine ⟨_, _, pre103 _ ?_, hrun, hended, _, _, rfl, ?_, ⟨_, rfl⟩, hW, hsame.mono (by decide) (by decide)⟩
    · show Steps p.tables e below (s₁.setTop (mkF m 10 #[.val (.int p1), .val (.int p2)] [(.int p2)])) _
      exact retI X0 hx Bd.returns (hb hby d4_10) hr
    · show Q4 Z p1 p2 h0 n0 _ s₁.heap _
      rw [e0]
      exact ⟨by rw [hv], N0, rfl⟩
  · have pre104 : ∀ t, Steps p.tables e below (s₁.setTop (mkF m 10 #[.val (.int p1), .val (.int p2)] [(.int p1)])) t → Steps p.tables e below (s₁.setTop (entryFrame m #[(.int p1), (.int p2)] 2)) t := fun t9 k9 => pre101 t9 (by
        show Steps p.tables e below (s₁.setTop (mkF m 2 #[.val (.int p1), .val (.int p2)] [(.int p2), (.int p1)])) _
        refine XS.icmpNo X0.here hx rfl (hb hby d4_2) rfl (own_gt_f (a := p1.toInt) (b := p2.toInt) rfl rfl b102) ?_
        show Steps p.tables e below (s₁.setTop (mkF m 5 #[.val (.int p1), .val (.int p2)] [])) _
        refine XS.iloadN X0.here hx rfl (hb hby d4_5) rfl ?_
        show Steps p.tables e below (s₁.setTop (mkF m 6 #[.val (.int p1), .val (.int p2)] [(.int p1)])) _
        refine XS.goto X0.here hx rfl (pc0 := 6) (pc' := 10) rfl (hb hby d4_6) (by decide) (by decide) ?_
        exact k9)
    have hv : own_v4 p1 p2 = p1 := by unfold own_v4; exact if_neg (by omega)
    obtain ⟨fs, hr, hrun, hended, hW, hsame⟩ := X0.leave (v := some (.int p1)) (fun h => by rw [Bd.returns] at h; cases h)
    refine ⟨_, _, pre104 _ ?_, hrun, hended, _, _, rfl, ?_, ⟨_, rfl⟩, hW, hsame.mono (by decide) (by decide)⟩
    · show Steps p.tables e below (s₁.setTop (mkF m 10 #[.val (.int p1), .val (.int p2)] [(.int p1)])) _
      exact retI X0 hx Bd.returns (hb hby d4_10) hr
    · show Q4 Z p1 p2 h0 n0 _ s₁.heap _
      rw [e0]
      exact ⟨by rw [hv], N0, rfl⟩
theorem d6_0 : decode prog_42_method_3_code 0 = .ok (.lconst 0, 1) := by decide +kernel
theorem d6_1 : decode prog_42_method_3_code 1 = .ok (.lstore_n 1, 1) := by decide +kernel
theorem d6_2 : decode prog_42_method_3_code 2 = .ok (.iconst 0, 1) := by decide +kernel
theorem d6_3 : decode prog_42_method_3_code 3 = .ok (.istore_n 3, 1) := by decide +kernel
theorem d6_4 : decode prog_42_method_3_code 4 = .ok (.aload_n 0, 1) := by decide +kernel
theorem d6_5 : decode prog_42_method_3_code 5 = .ok (.getfield 20, 3) := by decide +kernel
theorem d6_8 : decode prog_42_method_3_code 8 = .ok (.aload_n 0, 1) := by decide +kernel
theorem d6_9 : decode prog_42_method_3_code 9 = .ok (.getfield 16, 3) := by decide +kernel
theorem d6_12 : decode prog_42_method_3_code 12 = .ok (.if_icmp .ne 13, 3) := by decide +kernel
theorem d6_25 : decode prog_42_method_3_code 25 = .ok (.iload_n 3, 1) := by decide +kernel
theorem d6_26 : decode prog_42_method_3_code 26 = .ok (.bipush 63, 2) := by decide +kernel
theorem d6_28 : decode prog_42_method_3_code 28 = .ok (.if_icmp .ne 13, 3) := by decide +kernel
theorem d6_41 : decode prog_42_method_3_code 41 = .ok (.aload_n 0, 1) := by decide +kernel
theorem d6_42 : decode prog_42_method_3_code 42 = .ok (.getfield 12, 3) := by decide +kernel
theorem d6_45 : decode prog_42_method_3_code 45 = .ok (.aload_n 0, 1) := by decide +kernel
theorem d6_46 : decode prog_42_method_3_code 46 = .ok (.dup, 1) := by decide +kernel
theorem d6_47 : decode prog_42_method_3_code 47 = .ok (.getfield 20, 3) := by decide +kernel
theorem d6_50 : decode prog_42_method_3_code 50 = .ok (.dup_x1, 1) := by decide +kernel
theorem d6_51 : decode prog_42_method_3_code 51 = .ok (.iconst 1, 1) := by decide +kernel
theorem d6_52 : decode prog_42_method_3_code 52 = .ok (.iadd, 1) := by decide +kernel
theorem d6_53 : decode prog_42_method_3_code 53 = .ok (.putfield 20, 3) := by decide +kernel
theorem d6_56 : decode prog_42_method_3_code 56 = .ok (.baload, 1) := by decide +kernel
theorem d6_57 : decode prog_42_method_3_code 57 = .ok (.istore 4, 2) := by decide +kernel
theorem d6_59 : decode prog_42_method_3_code 59 = .ok (.lload_n 1, 1) := by decide +kernel
theorem d6_60 : decode prog_42_method_3_code 60 = .ok (.iload 4, 2) := by decide +kernel
theorem d6_62 : decode prog_42_method_3_code 62 = .ok (.bipush 127, 2) := by decide +kernel
theorem d6_64 : decode prog_42_method_3_code 64 = .ok (.iand, 1) := by decide +kernel
theorem d6_65 : decode prog_42_method_3_code 65 = .ok (.i2l, 1) := by decide +kernel
theorem d6_66 : decode prog_42_method_3_code 66 = .ok (.iload_n 3, 1) := by decide +kernel
theorem d6_67 : decode prog_42_method_3_code 67 = .ok (.lshl, 1) := by decide +kernel
theorem d6_68 : decode prog_42_method_3_code 68 = .ok (.lor, 1) := by decide +kernel
theorem d6_69 : decode prog_42_method_3_code 69 = .ok (.lstore_n 1, 1) := by decide +kernel
theorem d6_70 : decode prog_42_method_3_code 70 = .ok (.iinc 3 7, 3) := by decide +kernel
theorem d6_73 : decode prog_42_method_3_code 73 = .ok (.iload 4, 2) := by decide +kernel
theorem d6_75 : decode prog_42_method_3_code 75 = .ok (.sipush 128, 3) := by decide +kernel
theorem d6_78 : decode prog_42_method_3_code 78 = .ok (.iand, 1) := by decide +kernel
theorem d6_79 : decode prog_42_method_3_code 79 = .ok (.ifCond .ne (-75), 3) := by decide +kernel
theorem d6_82 : decode prog_42_method_3_code 82 = .ok (.lload_n 1, 1) := by decide +kernel
theorem d6_83 : decode prog_42_method_3_code 83 = .ok (.lreturn, 1) := by decide +kernel
theorem pn_6 : plainName "com/example/pesquisa/pesquisa/index/ByteSource" = true := by first | (simp [plainName, overriddenIn]; done) | decide +kernel
theorem ef_6 (m : MethodId) (a1 : Addr) : entryFrame m #[(.ref a1)] 5 = mkF m 0 #[.val (.ref a1), .unset, .unset, .unset, .unset] [] := by first | (simp [entryFrame, mkF, argsToLocals, Value.category]; done) | rfl
def Q6 (Z : State) (a1 : Addr) (b : Addr) (cl : Cell) (n pos : Int32) (h0 : Heap) (n0 : Nat) (v : Option Value) (h : Heap) (L : List Loc) : Prop := ∃ r : Int64, v = some (.long r) ∧ Fr n0 L ∧ Keep h0 h [a1] ∧ Exa Z h a1 "com/example/pesquisa/pesquisa/index/ByteSource" ∧ Fld Z h a1 "com/example/pesquisa/pesquisa/index/ByteSource" "bytes" "[B" (.ref b) ∧ Fld Z h a1 "com/example/pesquisa/pesquisa/index/ByteSource" "end" "I" (.int n) ∧ Fld Z h a1 "com/example/pesquisa/pesquisa/index/ByteSource" "position" "I" (.int (own_next cl pos))
set_option maxRecDepth 65536 in
set_option maxHeartbeats 40000000 in
theorem rm6 (l : Launch) (Z : State) (a0 : Array Value) (hw : ∀ d ∈ tables_1, d.before a0 Z = true) (ws : List Jvm.Cond) (a1 : Addr) (b : Addr) (cl : Cell) (n pos : Int32) (h0 : Heap) (n0 : Nat) (Z0 : n0 ≤ h0.size) (E_a1 : Exa Z h0 a1 "com/example/pesquisa/pesquisa/index/ByteSource") (F_bytes : Fld Z h0 a1 "com/example/pesquisa/pesquisa/index/ByteSource" "bytes" "[B" (.ref b)) (F_end : Fld Z h0 a1 "com/example/pesquisa/pesquisa/index/ByteSource" "end" "I" (.int n)) (F_position : Fld Z h0 a1 "com/example/pesquisa/pesquisa/index/ByteSource" "position" "I" (.int pos)) (g_a1 : n0 ≤ a1) (Ar : Arr Z h0 b cl .byte) (hne : b ≠ a1) (hall : own_in cl) (hlo : 0 ≤ pos.toInt) (hlt : pos.toInt < n.toInt) (hn6 : n.toInt ≤ 6) (h2 : ¬ (((atv cl pos) &&& (128 : Int32)).toInt = 0) → pos.toInt + 1 < n.toInt ∧ ((atv cl (pos + (1 : Int32))) &&& (128 : Int32)).toInt = 0) :
    MetFree l (⟨"com/example/pesquisa/pesquisa/index/ByteSource", "readNumber", "()J"⟩ : MethodName) (head1 (Jvm.Cond.code (⟨"com/example/pesquisa/pesquisa/index/ByteSource", "readNumber", "()J"⟩ : MethodName) prog_42_method_3_code 5 (some .long) :: ws) ({ frames := 0, cells := 0, slots := 0, locals := 0 } : Room)) (fun a U => a = #[(.ref a1)] ∧ Z.Warmed39 U.vm ∧ U.heap = h0) (fun _ _ _ _ _ => True) (fun _ U o U' => ∃ v L, o = .returned v ∧ Q6 Z a1 b cl n pos h0 n0 v U'.heap L ∧ FrameEnd U o U' L ({ frames := 0, cells := 0, slots := 0, locals := 0 } : Room).cells ({ frames := 0, cells := 0, slots := 0, locals := 0 } : Room).slots) := by
  refine MetFree.of_bodySF (plainFor_of_name pn_6) hisR ?_
  intro p e s m args below meth c s₁ Bd hml0 hP hK
  obtain ⟨rfl, hZ, hh⟩ := hP
  have hx := Bd.exec
  have hby := Bd.bytes
  have hml : c.maxLocals = 5 := hml0
  have hown : s.vm.findClass "com/example/pesquisa/pesquisa/index/ByteSource" = some m.cls := findClass_of_methodNamed Bd.named
  have hnm := (name_of_methodNamed Bd.named Bd.method).1
  have X0 : Stand p l e ({ frames := 0, cells := 0, slots := 0, locals := 0 } : Room) s m #[(.ref a1)] below meth c s₁ [] 0 0 := Stand.of_body Bd
  have e0 : s₁.heap = h0 := by rw [← hh, Bd.state]; rfl
  have N0 := Fr.nil n0
  have pre0 : ∀ t, Steps p.tables e below (s₁.setTop (mkF m 0 #[.val (.ref a1), .unset, .unset, .unset, .unset] [])) t → Steps p.tables e below (s₁.setTop (entryFrame m #[(.ref a1)] 5)) t := fun t k => castTop (ef_6 m a1) k
  have hp1 := own_add1 pos (by omega)
  obtain ⟨T101, X101, e101, st101⟩ := getF X0 hx hZ hown (host := "") (Or.inl (hw _ (List.mem_of_getElem? (i := 21) rfl))) Via.refl e0 F_position (g := (mkF m 5 #[.val (.ref a1), .val (.long (0 : Int64)), .second, .val (.int (0 : Int32)), .unset] [(.ref a1)])) rfl rfl (hb hby d6_5)
  obtain ⟨T102, X102, e102, st102⟩ := getF X101 hx hZ hown (host := "") (Or.inl (hw _ (List.mem_of_getElem? (i := 14) rfl))) Via.refl e101 F_end (g := (mkF m 9 #[.val (.ref a1), .val (.long (0 : Int64)), .second, .val (.int (0 : Int32)), .unset] [(.ref a1), (.int pos)])) rfl rfl (hb hby d6_9)
  have pre103 : ∀ t, Steps p.tables e below (T102.setTop (mkF m 12 #[.val (.ref a1), .val (.long (0 : Int64)), .second, .val (.int (0 : Int32)), .unset] [(.int n), (.int pos)])) t → Steps p.tables e below (s₁.setTop (entryFrame m #[(.ref a1)] 5)) t := fun t9 k9 => pre0 t9 (by
      show Steps p.tables e below (s₁.setTop (mkF m 0 #[.val (.ref a1), .unset, .unset, .unset, .unset] [])) _
      refine XS.lconst X0.here hx rfl (hb hby d6_0) ?_
      show Steps p.tables e below (s₁.setTop (mkF m 1 #[.val (.ref a1), .unset, .unset, .unset, .unset] [(.long (0 : Int64))])) _
      refine XS.lstoreN X0.here hx rfl (hb hby d6_1) rfl (l' := #[.val (.ref a1), .val (.long (0 : Int64)), .second, .unset, .unset]) rfl ?_
      show Steps p.tables e below (s₁.setTop (mkF m 2 #[.val (.ref a1), .val (.long (0 : Int64)), .second, .unset, .unset] [])) _
      refine XS.iconst X0.here hx rfl (hb hby d6_2) ?_
      show Steps p.tables e below (s₁.setTop (mkF m 3 #[.val (.ref a1), .val (.long (0 : Int64)), .second, .unset, .unset] [(.int (0 : Int32))])) _
      refine XS.istoreN X0.here hx rfl (hb hby d6_3) rfl (l' := #[.val (.ref a1), .val (.long (0 : Int64)), .second, .val (.int (0 : Int32)), .unset]) rfl ?_
      show Steps p.tables e below (s₁.setTop (mkF m 4 #[.val (.ref a1), .val (.long (0 : Int64)), .second, .val (.int (0 : Int32)), .unset] [])) _
      refine XS.aloadN X0.here hx rfl (hb hby d6_4) rfl rfl ?_
      show Steps p.tables e below (s₁.setTop (mkF m 5 #[.val (.ref a1), .val (.long (0 : Int64)), .second, .val (.int (0 : Int32)), .unset] [(.ref a1)])) _
      refine st101 _ ?_
      show Steps p.tables e below (T101.setTop (mkF m 8 #[.val (.ref a1), .val (.long (0 : Int64)), .second, .val (.int (0 : Int32)), .unset] [(.int pos)])) _
      refine XS.aloadN X101.here hx rfl (hb hby d6_8) rfl rfl ?_
      show Steps p.tables e below (T101.setTop (mkF m 9 #[.val (.ref a1), .val (.long (0 : Int64)), .second, .val (.int (0 : Int32)), .unset] [(.ref a1), (.int pos)])) _
      refine st102 _ ?_
      exact k9)
  have b104 : ¬ (pos.toInt = n.toInt) := by omega
  obtain ⟨T105, X105, e105, st105⟩ := getF X102 hx hZ hown (host := "") (Or.inl (hw _ (List.mem_of_getElem? (i := 12) rfl))) Via.refl e102 F_bytes (g := (mkF m 42 #[.val (.ref a1), .val (.long (0 : Int64)), .second, .val (.int (0 : Int32)), .unset] [(.ref a1)])) rfl rfl (hb hby d6_42)
  obtain ⟨T106, X106, e106, st106⟩ := getF X105 hx hZ hown (host := "") (Or.inl (hw _ (List.mem_of_getElem? (i := 21) rfl))) Via.refl e105 F_position (g := (mkF m 47 #[.val (.ref a1), .val (.long (0 : Int64)), .second, .val (.int (0 : Int32)), .unset] [(.ref a1), (.ref a1), (.ref b)])) rfl rfl (hb hby d6_47)
  obtain ⟨T107, h107, X107, e107, W107, st107⟩ := putF X106 hx hZ hown (host := "") (Or.inl (hw _ (List.mem_of_getElem? (i := 21) rfl))) Via.refl e106 F_position E_a1 (Or.inl (hw _ (List.mem_of_getElem? (i := 22) rfl))) (hw _ (List.mem_of_getElem? (i := 4) rfl)) (ty := .int) (by decide) rfl rfl (g := (mkF m 53 #[.val (.ref a1), .val (.long (0 : Int64)), .second, .val (.int (0 : Int32)), .unset] [(.int (pos + (1 : Int32))), (.ref a1), (.int pos), (.ref b)])) rfl rfl (hb hby d6_53)
  have E108 := E_a1.wr W107
  have F109 := F_bytes.other W107 (Or.inr (slot_ne (Or.inr (hw _ (List.mem_of_getElem? (i := 13) rfl))) (Or.inl (hw _ (List.mem_of_getElem? (i := 22) rfl))) (by decide) (t := (.array .byte)) (t' := .int) (by decide) (by decide)))
  have F110 := F_end.other W107 (Or.inr (slot_ne (Or.inr (hw _ (List.mem_of_getElem? (i := 15) rfl))) (Or.inl (hw _ (List.mem_of_getElem? (i := 22) rfl))) (by decide) (t := .int) (t' := .int) (by decide) (by decide)))
  have Ar111 := Ar.other W107 hne
  have Fw107 := F_position.same W107
  have N107 := Fr.snoc X107 N0 g_a1
  have K107 := (Keep.refl h0 [a1]).wr W107 (Or.inl (List.mem_of_getElem? (i := 0) rfl))
  have Z107 : n0 ≤ h107.size := (Nat.le_trans Z0 (Keep.of_wr W107).1)
  have pre112 : ∀ t, Steps p.tables e below (T107.setTop (mkF m 79 #[.val (.ref a1), .val (.long ((0 : Int64) ||| ((((atv cl pos) &&& (127 : Int32)).toInt64) <<< ((0 : Int32) &&& 0x3f).toInt64))), .second, .val (.int ((0 : Int32) + (7 : Int32))), .val (.int (atv cl pos))] [(.int ((atv cl pos) &&& (128 : Int32)))])) t → Steps p.tables e below (s₁.setTop (entryFrame m #[(.ref a1)] 5)) t := fun t9 k9 => pre103 t9 (by
      show Steps p.tables e below (T102.setTop (mkF m 12 #[.val (.ref a1), .val (.long (0 : Int64)), .second, .val (.int (0 : Int32)), .unset] [(.int n), (.int pos)])) _
      refine XS.icmpYes X102.here hx rfl (pc0 := 12) (pc' := 25) rfl (hb hby d6_12) rfl (own_ne_t (a := pos.toInt) (b := n.toInt) rfl rfl b104) (by decide) (by decide) ?_
      show Steps p.tables e below (T102.setTop (mkF m 25 #[.val (.ref a1), .val (.long (0 : Int64)), .second, .val (.int (0 : Int32)), .unset] [])) _
      refine XS.iloadN X102.here hx rfl (hb hby d6_25) rfl ?_
      show Steps p.tables e below (T102.setTop (mkF m 26 #[.val (.ref a1), .val (.long (0 : Int64)), .second, .val (.int (0 : Int32)), .unset] [(.int (0 : Int32))])) _
      refine XS.bipush X102.here hx rfl (hb hby d6_26) ?_
      show Steps p.tables e below (T102.setTop (mkF m 28 #[.val (.ref a1), .val (.long (0 : Int64)), .second, .val (.int (0 : Int32)), .unset] [(.int (63 : Int32)), (.int (0 : Int32))])) _
      refine XS.icmpYes X102.here hx rfl (pc0 := 28) (pc' := 41) rfl (hb hby d6_28) rfl (own_ne_t (a := (0 : Int)) (b := (63 : Int)) (by decide) (by decide) (by decide)) (by decide) (by decide) ?_
      show Steps p.tables e below (T102.setTop (mkF m 41 #[.val (.ref a1), .val (.long (0 : Int64)), .second, .val (.int (0 : Int32)), .unset] [])) _
      refine XS.aloadN X102.here hx rfl (hb hby d6_41) rfl rfl ?_
      show Steps p.tables e below (T102.setTop (mkF m 42 #[.val (.ref a1), .val (.long (0 : Int64)), .second, .val (.int (0 : Int32)), .unset] [(.ref a1)])) _
      refine st105 _ ?_
      show Steps p.tables e below (T105.setTop (mkF m 45 #[.val (.ref a1), .val (.long (0 : Int64)), .second, .val (.int (0 : Int32)), .unset] [(.ref b)])) _
      refine XS.aloadN X105.here hx rfl (hb hby d6_45) rfl rfl ?_
      show Steps p.tables e below (T105.setTop (mkF m 46 #[.val (.ref a1), .val (.long (0 : Int64)), .second, .val (.int (0 : Int32)), .unset] [(.ref a1), (.ref b)])) _
      refine XS.dup X105.here hx rfl (hb hby d6_46) rfl rfl ?_
      show Steps p.tables e below (T105.setTop (mkF m 47 #[.val (.ref a1), .val (.long (0 : Int64)), .second, .val (.int (0 : Int32)), .unset] [(.ref a1), (.ref a1), (.ref b)])) _
      refine st106 _ ?_
      show Steps p.tables e below (T106.setTop (mkF m 50 #[.val (.ref a1), .val (.long (0 : Int64)), .second, .val (.int (0 : Int32)), .unset] [(.int pos), (.ref a1), (.ref b)])) _
      refine XS.dupX1 X106.here hx rfl (hb hby d6_50) rfl rfl rfl ?_
      show Steps p.tables e below (T106.setTop (mkF m 51 #[.val (.ref a1), .val (.long (0 : Int64)), .second, .val (.int (0 : Int32)), .unset] [(.int pos), (.ref a1), (.int pos), (.ref b)])) _
      refine XS.iconst X106.here hx rfl (hb hby d6_51) ?_
      show Steps p.tables e below (T106.setTop (mkF m 52 #[.val (.ref a1), .val (.long (0 : Int64)), .second, .val (.int (0 : Int32)), .unset] [(.int (1 : Int32)), (.int pos), (.ref a1), (.int pos), (.ref b)])) _
      refine XS.iadd X106.here hx rfl (hb hby d6_52) rfl ?_
      show Steps p.tables e below (T106.setTop (mkF m 53 #[.val (.ref a1), .val (.long (0 : Int64)), .second, .val (.int (0 : Int32)), .unset] [(.int (pos + (1 : Int32))), (.ref a1), (.int pos), (.ref b)])) _
      refine st107 _ ?_
      show Steps p.tables e below (T107.setTop (mkF m 56 #[.val (.ref a1), .val (.long (0 : Int64)), .second, .val (.int (0 : Int32)), .unset] [(.int pos), (.ref b)])) _
      refine X107.baloadBytes hx (j := pos) (v := (.int (atv cl pos))) (by rw [e107]; exact Ar111.1) (State.isArrayOf_alike hZ.alike Ar111.2.1) Ar111.2.2 (hall pos (by omega) (by omega)).1 (hall pos (by omega) (by omega)).2 (g := (mkF m 56 #[.val (.ref a1), .val (.long (0 : Int64)), .second, .val (.int (0 : Int32)), .unset] [(.int pos), (.ref b)])) rfl rfl (hb hby d6_56) _ ?_
      show Steps p.tables e below (T107.setTop (mkF m 57 #[.val (.ref a1), .val (.long (0 : Int64)), .second, .val (.int (0 : Int32)), .unset] [(.int (atv cl pos))])) _
      refine XS.istore X107.here hx rfl (hb hby d6_57) rfl (l' := #[.val (.ref a1), .val (.long (0 : Int64)), .second, .val (.int (0 : Int32)), .val (.int (atv cl pos))]) rfl ?_
      show Steps p.tables e below (T107.setTop (mkF m 59 #[.val (.ref a1), .val (.long (0 : Int64)), .second, .val (.int (0 : Int32)), .val (.int (atv cl pos))] [])) _
      refine XS.lloadN X107.here hx rfl (hb hby d6_59) rfl ?_
      show Steps p.tables e below (T107.setTop (mkF m 60 #[.val (.ref a1), .val (.long (0 : Int64)), .second, .val (.int (0 : Int32)), .val (.int (atv cl pos))] [(.long (0 : Int64))])) _
      refine XS.iload X107.here hx rfl (hb hby d6_60) rfl ?_
      show Steps p.tables e below (T107.setTop (mkF m 62 #[.val (.ref a1), .val (.long (0 : Int64)), .second, .val (.int (0 : Int32)), .val (.int (atv cl pos))] [(.int (atv cl pos)), (.long (0 : Int64))])) _
      refine XS.bipush X107.here hx rfl (hb hby d6_62) ?_
      show Steps p.tables e below (T107.setTop (mkF m 64 #[.val (.ref a1), .val (.long (0 : Int64)), .second, .val (.int (0 : Int32)), .val (.int (atv cl pos))] [(.int (127 : Int32)), (.int (atv cl pos)), (.long (0 : Int64))])) _
      refine XS.iand X107.here hx rfl (hb hby d6_64) rfl ?_
      show Steps p.tables e below (T107.setTop (mkF m 65 #[.val (.ref a1), .val (.long (0 : Int64)), .second, .val (.int (0 : Int32)), .val (.int (atv cl pos))] [(.int ((atv cl pos) &&& (127 : Int32))), (.long (0 : Int64))])) _
      refine XS.i2l X107.here hx rfl (hb hby d6_65) rfl ?_
      show Steps p.tables e below (T107.setTop (mkF m 66 #[.val (.ref a1), .val (.long (0 : Int64)), .second, .val (.int (0 : Int32)), .val (.int (atv cl pos))] [(.long (((atv cl pos) &&& (127 : Int32)).toInt64)), (.long (0 : Int64))])) _
      refine XS.iloadN X107.here hx rfl (hb hby d6_66) rfl ?_
      show Steps p.tables e below (T107.setTop (mkF m 67 #[.val (.ref a1), .val (.long (0 : Int64)), .second, .val (.int (0 : Int32)), .val (.int (atv cl pos))] [(.int (0 : Int32)), (.long (((atv cl pos) &&& (127 : Int32)).toInt64)), (.long (0 : Int64))])) _
      refine XS.lshl X107.here hx rfl (hb hby d6_67) rfl ?_
      show Steps p.tables e below (T107.setTop (mkF m 68 #[.val (.ref a1), .val (.long (0 : Int64)), .second, .val (.int (0 : Int32)), .val (.int (atv cl pos))] [(.long ((((atv cl pos) &&& (127 : Int32)).toInt64) <<< ((0 : Int32) &&& 0x3f).toInt64)), (.long (0 : Int64))])) _
      refine XS.lor X107.here hx rfl (hb hby d6_68) rfl ?_
      show Steps p.tables e below (T107.setTop (mkF m 69 #[.val (.ref a1), .val (.long (0 : Int64)), .second, .val (.int (0 : Int32)), .val (.int (atv cl pos))] [(.long ((0 : Int64) ||| ((((atv cl pos) &&& (127 : Int32)).toInt64) <<< ((0 : Int32) &&& 0x3f).toInt64)))])) _
      refine XS.lstoreN X107.here hx rfl (hb hby d6_69) rfl (l' := #[.val (.ref a1), .val (.long ((0 : Int64) ||| ((((atv cl pos) &&& (127 : Int32)).toInt64) <<< ((0 : Int32) &&& 0x3f).toInt64))), .second, .val (.int (0 : Int32)), .val (.int (atv cl pos))]) rfl ?_
      show Steps p.tables e below (T107.setTop (mkF m 70 #[.val (.ref a1), .val (.long ((0 : Int64) ||| ((((atv cl pos) &&& (127 : Int32)).toInt64) <<< ((0 : Int32) &&& 0x3f).toInt64))), .second, .val (.int (0 : Int32)), .val (.int (atv cl pos))] [])) _
      refine XS.iinc X107.here hx rfl (hb hby d6_70) rfl (l' := #[.val (.ref a1), .val (.long ((0 : Int64) ||| ((((atv cl pos) &&& (127 : Int32)).toInt64) <<< ((0 : Int32) &&& 0x3f).toInt64))), .second, .val (.int ((0 : Int32) + (7 : Int32))), .val (.int (atv cl pos))]) rfl ?_
      show Steps p.tables e below (T107.setTop (mkF m 73 #[.val (.ref a1), .val (.long ((0 : Int64) ||| ((((atv cl pos) &&& (127 : Int32)).toInt64) <<< ((0 : Int32) &&& 0x3f).toInt64))), .second, .val (.int ((0 : Int32) + (7 : Int32))), .val (.int (atv cl pos))] [])) _
      refine XS.iload X107.here hx rfl (hb hby d6_73) rfl ?_
      show Steps p.tables e below (T107.setTop (mkF m 75 #[.val (.ref a1), .val (.long ((0 : Int64) ||| ((((atv cl pos) &&& (127 : Int32)).toInt64) <<< ((0 : Int32) &&& 0x3f).toInt64))), .second, .val (.int ((0 : Int32) + (7 : Int32))), .val (.int (atv cl pos))] [(.int (atv cl pos))])) _
      refine XS.sipush X107.here hx rfl (hb hby d6_75) ?_
      show Steps p.tables e below (T107.setTop (mkF m 78 #[.val (.ref a1), .val (.long ((0 : Int64) ||| ((((atv cl pos) &&& (127 : Int32)).toInt64) <<< ((0 : Int32) &&& 0x3f).toInt64))), .second, .val (.int ((0 : Int32) + (7 : Int32))), .val (.int (atv cl pos))] [(.int (128 : Int32)), (.int (atv cl pos))])) _
      refine XS.iand X107.here hx rfl (hb hby d6_78) rfl ?_
      exact k9)
  by_cases b113 : ((atv cl pos) &&& (128 : Int32)).toInt = (0 : Int)
  · have pre114 : ∀ t, Steps p.tables e below (T107.setTop (mkF m 83 #[.val (.ref a1), .val (.long ((0 : Int64) ||| ((((atv cl pos) &&& (127 : Int32)).toInt64) <<< ((0 : Int32) &&& 0x3f).toInt64))), .second, .val (.int ((0 : Int32) + (7 : Int32))), .val (.int (atv cl pos))] [(.long ((0 : Int64) ||| ((((atv cl pos) &&& (127 : Int32)).toInt64) <<< ((0 : Int32) &&& 0x3f).toInt64)))])) t → Steps p.tables e below (s₁.setTop (entryFrame m #[(.ref a1)] 5)) t := fun t9 k9 => pre112 t9 (by
        show Steps p.tables e below (T107.setTop (mkF m 79 #[.val (.ref a1), .val (.long ((0 : Int64) ||| ((((atv cl pos) &&& (127 : Int32)).toInt64) <<< ((0 : Int32) &&& 0x3f).toInt64))), .second, .val (.int ((0 : Int32) + (7 : Int32))), .val (.int (atv cl pos))] [(.int ((atv cl pos) &&& (128 : Int32)))])) _
        refine XS.ifNo X107.here hx rfl (hb hby d6_79) rfl ((if0 _ _).trans (own_ne_f (a := ((atv cl pos) &&& (128 : Int32)).toInt) (b := (0 : Int)) rfl (by decide) b113)) ?_
        show Steps p.tables e below (T107.setTop (mkF m 82 #[.val (.ref a1), .val (.long ((0 : Int64) ||| ((((atv cl pos) &&& (127 : Int32)).toInt64) <<< ((0 : Int32) &&& 0x3f).toInt64))), .second, .val (.int ((0 : Int32) + (7 : Int32))), .val (.int (atv cl pos))] [])) _
        refine XS.lloadN X107.here hx rfl (hb hby d6_82) rfl ?_
        exact k9)
    have hv : own_next cl pos = (pos + (1 : Int32)) := by unfold own_next; exact if_pos (by assumption)
    obtain ⟨fs, hr, hrun, hended, hW, hsame⟩ := X107.leave (v := some (.long ((0 : Int64) ||| ((((atv cl pos) &&& (127 : Int32)).toInt64) <<< ((0 : Int32) &&& 0x3f).toInt64)))) (fun h => by rw [Bd.returns] at h; cases h)
    refine ⟨_, _, pre114 _ ?_, hrun, hended, _, _, rfl, ?_, ⟨_, rfl⟩, hW, hsame.mono (by decide) (by decide)⟩
    · show Steps p.tables e below (T107.setTop (mkF m 83 #[.val (.ref a1), .val (.long ((0 : Int64) ||| ((((atv cl pos) &&& (127 : Int32)).toInt64) <<< ((0 : Int32) &&& 0x3f).toInt64))), .second, .val (.int ((0 : Int32) + (7 : Int32))), .val (.int (atv cl pos))] [(.long ((0 : Int64) ||| ((((atv cl pos) &&& (127 : Int32)).toInt64) <<< ((0 : Int32) &&& 0x3f).toInt64)))])) _
      exact X107.lreturnOut hx Bd.returns (hb hby d6_83) hr
    · show Q6 Z a1 b cl n pos h0 n0 _ T107.heap _
      rw [e107]
      exact ⟨_, rfl, N107, K107, E108, F109, F110, by rw [hv]; exact Fw107⟩
  · have h2' := h2 (by assumption)
    obtain ⟨T115, X115, e115, st115⟩ := getF X107 hx hZ hown (host := "") (Or.inl (hw _ (List.mem_of_getElem? (i := 21) rfl))) Via.refl e107 Fw107 (g := (mkF m 5 #[.val (.ref a1), .val (.long ((0 : Int64) ||| ((((atv cl pos) &&& (127 : Int32)).toInt64) <<< ((0 : Int32) &&& 0x3f).toInt64))), .second, .val (.int ((0 : Int32) + (7 : Int32))), .val (.int (atv cl pos))] [(.ref a1)])) rfl rfl (hb hby d6_5)
    obtain ⟨T116, X116, e116, st116⟩ := getF X115 hx hZ hown (host := "") (Or.inl (hw _ (List.mem_of_getElem? (i := 14) rfl))) Via.refl e115 F110 (g := (mkF m 9 #[.val (.ref a1), .val (.long ((0 : Int64) ||| ((((atv cl pos) &&& (127 : Int32)).toInt64) <<< ((0 : Int32) &&& 0x3f).toInt64))), .second, .val (.int ((0 : Int32) + (7 : Int32))), .val (.int (atv cl pos))] [(.ref a1), (.int (pos + (1 : Int32)))])) rfl rfl (hb hby d6_9)
    have pre117 : ∀ t, Steps p.tables e below (T116.setTop (mkF m 12 #[.val (.ref a1), .val (.long ((0 : Int64) ||| ((((atv cl pos) &&& (127 : Int32)).toInt64) <<< ((0 : Int32) &&& 0x3f).toInt64))), .second, .val (.int ((0 : Int32) + (7 : Int32))), .val (.int (atv cl pos))] [(.int n), (.int (pos + (1 : Int32)))])) t → Steps p.tables e below (s₁.setTop (entryFrame m #[(.ref a1)] 5)) t := fun t9 k9 => pre112 t9 (by
        show Steps p.tables e below (T107.setTop (mkF m 79 #[.val (.ref a1), .val (.long ((0 : Int64) ||| ((((atv cl pos) &&& (127 : Int32)).toInt64) <<< ((0 : Int32) &&& 0x3f).toInt64))), .second, .val (.int ((0 : Int32) + (7 : Int32))), .val (.int (atv cl pos))] [(.int ((atv cl pos) &&& (128 : Int32)))])) _
        refine XS.ifYes X107.here hx rfl (pc0 := 79) (pc' := 4) rfl (hb hby d6_79) rfl ((if0 _ _).trans (own_ne_t (a := ((atv cl pos) &&& (128 : Int32)).toInt) (b := (0 : Int)) rfl (by decide) b113)) (by decide) (by decide) ?_
        show Steps p.tables e below (T107.setTop (mkF m 4 #[.val (.ref a1), .val (.long ((0 : Int64) ||| ((((atv cl pos) &&& (127 : Int32)).toInt64) <<< ((0 : Int32) &&& 0x3f).toInt64))), .second, .val (.int ((0 : Int32) + (7 : Int32))), .val (.int (atv cl pos))] [])) _
        refine XS.aloadN X107.here hx rfl (hb hby d6_4) rfl rfl ?_
        show Steps p.tables e below (T107.setTop (mkF m 5 #[.val (.ref a1), .val (.long ((0 : Int64) ||| ((((atv cl pos) &&& (127 : Int32)).toInt64) <<< ((0 : Int32) &&& 0x3f).toInt64))), .second, .val (.int ((0 : Int32) + (7 : Int32))), .val (.int (atv cl pos))] [(.ref a1)])) _
        refine st115 _ ?_
        show Steps p.tables e below (T115.setTop (mkF m 8 #[.val (.ref a1), .val (.long ((0 : Int64) ||| ((((atv cl pos) &&& (127 : Int32)).toInt64) <<< ((0 : Int32) &&& 0x3f).toInt64))), .second, .val (.int ((0 : Int32) + (7 : Int32))), .val (.int (atv cl pos))] [(.int (pos + (1 : Int32)))])) _
        refine XS.aloadN X115.here hx rfl (hb hby d6_8) rfl rfl ?_
        show Steps p.tables e below (T115.setTop (mkF m 9 #[.val (.ref a1), .val (.long ((0 : Int64) ||| ((((atv cl pos) &&& (127 : Int32)).toInt64) <<< ((0 : Int32) &&& 0x3f).toInt64))), .second, .val (.int ((0 : Int32) + (7 : Int32))), .val (.int (atv cl pos))] [(.ref a1), (.int (pos + (1 : Int32)))])) _
        refine st116 _ ?_
        exact k9)
    have b118 : ¬ ((pos + (1 : Int32)).toInt = n.toInt) := by omega
    have pre119 : ∀ t, Steps p.tables e below (T116.setTop (mkF m 28 #[.val (.ref a1), .val (.long ((0 : Int64) ||| ((((atv cl pos) &&& (127 : Int32)).toInt64) <<< ((0 : Int32) &&& 0x3f).toInt64))), .second, .val (.int ((0 : Int32) + (7 : Int32))), .val (.int (atv cl pos))] [(.int (63 : Int32)), (.int ((0 : Int32) + (7 : Int32)))])) t → Steps p.tables e below (s₁.setTop (entryFrame m #[(.ref a1)] 5)) t := fun t9 k9 => pre117 t9 (by
        show Steps p.tables e below (T116.setTop (mkF m 12 #[.val (.ref a1), .val (.long ((0 : Int64) ||| ((((atv cl pos) &&& (127 : Int32)).toInt64) <<< ((0 : Int32) &&& 0x3f).toInt64))), .second, .val (.int ((0 : Int32) + (7 : Int32))), .val (.int (atv cl pos))] [(.int n), (.int (pos + (1 : Int32)))])) _
        refine XS.icmpYes X116.here hx rfl (pc0 := 12) (pc' := 25) rfl (hb hby d6_12) rfl (own_ne_t (a := (pos + (1 : Int32)).toInt) (b := n.toInt) rfl rfl b118) (by decide) (by decide) ?_
        show Steps p.tables e below (T116.setTop (mkF m 25 #[.val (.ref a1), .val (.long ((0 : Int64) ||| ((((atv cl pos) &&& (127 : Int32)).toInt64) <<< ((0 : Int32) &&& 0x3f).toInt64))), .second, .val (.int ((0 : Int32) + (7 : Int32))), .val (.int (atv cl pos))] [])) _
        refine XS.iloadN X116.here hx rfl (hb hby d6_25) rfl ?_
        show Steps p.tables e below (T116.setTop (mkF m 26 #[.val (.ref a1), .val (.long ((0 : Int64) ||| ((((atv cl pos) &&& (127 : Int32)).toInt64) <<< ((0 : Int32) &&& 0x3f).toInt64))), .second, .val (.int ((0 : Int32) + (7 : Int32))), .val (.int (atv cl pos))] [(.int ((0 : Int32) + (7 : Int32)))])) _
        refine XS.bipush X116.here hx rfl (hb hby d6_26) ?_
        exact k9)
    have b120 : ¬ (((0 : Int32) + (7 : Int32)).toInt = (63 : Int)) := by decide
    obtain ⟨T121, X121, e121, st121⟩ := getF X116 hx hZ hown (host := "") (Or.inl (hw _ (List.mem_of_getElem? (i := 12) rfl))) Via.refl e116 F109 (g := (mkF m 42 #[.val (.ref a1), .val (.long ((0 : Int64) ||| ((((atv cl pos) &&& (127 : Int32)).toInt64) <<< ((0 : Int32) &&& 0x3f).toInt64))), .second, .val (.int ((0 : Int32) + (7 : Int32))), .val (.int (atv cl pos))] [(.ref a1)])) rfl rfl (hb hby d6_42)
    obtain ⟨T122, X122, e122, st122⟩ := getF X121 hx hZ hown (host := "") (Or.inl (hw _ (List.mem_of_getElem? (i := 21) rfl))) Via.refl e121 Fw107 (g := (mkF m 47 #[.val (.ref a1), .val (.long ((0 : Int64) ||| ((((atv cl pos) &&& (127 : Int32)).toInt64) <<< ((0 : Int32) &&& 0x3f).toInt64))), .second, .val (.int ((0 : Int32) + (7 : Int32))), .val (.int (atv cl pos))] [(.ref a1), (.ref a1), (.ref b)])) rfl rfl (hb hby d6_47)
    obtain ⟨T123, h123, X123, e123, W123, st123⟩ := putF X122 hx hZ hown (host := "") (Or.inl (hw _ (List.mem_of_getElem? (i := 21) rfl))) Via.refl e122 Fw107 E108 (Or.inl (hw _ (List.mem_of_getElem? (i := 22) rfl))) (hw _ (List.mem_of_getElem? (i := 4) rfl)) (ty := .int) (by decide) rfl rfl (g := (mkF m 53 #[.val (.ref a1), .val (.long ((0 : Int64) ||| ((((atv cl pos) &&& (127 : Int32)).toInt64) <<< ((0 : Int32) &&& 0x3f).toInt64))), .second, .val (.int ((0 : Int32) + (7 : Int32))), .val (.int (atv cl pos))] [(.int ((pos + (1 : Int32)) + (1 : Int32))), (.ref a1), (.int (pos + (1 : Int32))), (.ref b)])) rfl rfl (hb hby d6_53)
    have E124 := E108.wr W123
    have F125 := F109.other W123 (Or.inr (slot_ne (Or.inr (hw _ (List.mem_of_getElem? (i := 13) rfl))) (Or.inl (hw _ (List.mem_of_getElem? (i := 22) rfl))) (by decide) (t := (.array .byte)) (t' := .int) (by decide) (by decide)))
    have F126 := F110.other W123 (Or.inr (slot_ne (Or.inr (hw _ (List.mem_of_getElem? (i := 15) rfl))) (Or.inl (hw _ (List.mem_of_getElem? (i := 22) rfl))) (by decide) (t := .int) (t' := .int) (by decide) (by decide)))
    have Ar127 := Ar111.other W123 hne
    have Fw123 := Fw107.same W123
    have N123 := Fr.snoc X123 N107 g_a1
    have K123 := K107.wr W123 (Or.inl (List.mem_of_getElem? (i := 0) rfl))
    have Z123 : n0 ≤ h123.size := (Nat.le_trans Z107 (Keep.of_wr W123).1)
    have pre128 : ∀ t, Steps p.tables e below (T123.setTop (mkF m 79 #[.val (.ref a1), .val (.long (((0 : Int64) ||| ((((atv cl pos) &&& (127 : Int32)).toInt64) <<< ((0 : Int32) &&& 0x3f).toInt64)) ||| ((((atv cl (pos + (1 : Int32))) &&& (127 : Int32)).toInt64) <<< (((0 : Int32) + (7 : Int32)) &&& 0x3f).toInt64))), .second, .val (.int (((0 : Int32) + (7 : Int32)) + (7 : Int32))), .val (.int (atv cl (pos + (1 : Int32))))] [(.int ((atv cl (pos + (1 : Int32))) &&& (128 : Int32)))])) t → Steps p.tables e below (s₁.setTop (entryFrame m #[(.ref a1)] 5)) t := fun t9 k9 => pre119 t9 (by
        show Steps p.tables e below (T116.setTop (mkF m 28 #[.val (.ref a1), .val (.long ((0 : Int64) ||| ((((atv cl pos) &&& (127 : Int32)).toInt64) <<< ((0 : Int32) &&& 0x3f).toInt64))), .second, .val (.int ((0 : Int32) + (7 : Int32))), .val (.int (atv cl pos))] [(.int (63 : Int32)), (.int ((0 : Int32) + (7 : Int32)))])) _
        refine XS.icmpYes X116.here hx rfl (pc0 := 28) (pc' := 41) rfl (hb hby d6_28) rfl (own_ne_t (a := ((0 : Int32) + (7 : Int32)).toInt) (b := (63 : Int)) rfl (by decide) b120) (by decide) (by decide) ?_
        show Steps p.tables e below (T116.setTop (mkF m 41 #[.val (.ref a1), .val (.long ((0 : Int64) ||| ((((atv cl pos) &&& (127 : Int32)).toInt64) <<< ((0 : Int32) &&& 0x3f).toInt64))), .second, .val (.int ((0 : Int32) + (7 : Int32))), .val (.int (atv cl pos))] [])) _
        refine XS.aloadN X116.here hx rfl (hb hby d6_41) rfl rfl ?_
        show Steps p.tables e below (T116.setTop (mkF m 42 #[.val (.ref a1), .val (.long ((0 : Int64) ||| ((((atv cl pos) &&& (127 : Int32)).toInt64) <<< ((0 : Int32) &&& 0x3f).toInt64))), .second, .val (.int ((0 : Int32) + (7 : Int32))), .val (.int (atv cl pos))] [(.ref a1)])) _
        refine st121 _ ?_
        show Steps p.tables e below (T121.setTop (mkF m 45 #[.val (.ref a1), .val (.long ((0 : Int64) ||| ((((atv cl pos) &&& (127 : Int32)).toInt64) <<< ((0 : Int32) &&& 0x3f).toInt64))), .second, .val (.int ((0 : Int32) + (7 : Int32))), .val (.int (atv cl pos))] [(.ref b)])) _
        refine XS.aloadN X121.here hx rfl (hb hby d6_45) rfl rfl ?_
        show Steps p.tables e below (T121.setTop (mkF m 46 #[.val (.ref a1), .val (.long ((0 : Int64) ||| ((((atv cl pos) &&& (127 : Int32)).toInt64) <<< ((0 : Int32) &&& 0x3f).toInt64))), .second, .val (.int ((0 : Int32) + (7 : Int32))), .val (.int (atv cl pos))] [(.ref a1), (.ref b)])) _
        refine XS.dup X121.here hx rfl (hb hby d6_46) rfl rfl ?_
        show Steps p.tables e below (T121.setTop (mkF m 47 #[.val (.ref a1), .val (.long ((0 : Int64) ||| ((((atv cl pos) &&& (127 : Int32)).toInt64) <<< ((0 : Int32) &&& 0x3f).toInt64))), .second, .val (.int ((0 : Int32) + (7 : Int32))), .val (.int (atv cl pos))] [(.ref a1), (.ref a1), (.ref b)])) _
        refine st122 _ ?_
        show Steps p.tables e below (T122.setTop (mkF m 50 #[.val (.ref a1), .val (.long ((0 : Int64) ||| ((((atv cl pos) &&& (127 : Int32)).toInt64) <<< ((0 : Int32) &&& 0x3f).toInt64))), .second, .val (.int ((0 : Int32) + (7 : Int32))), .val (.int (atv cl pos))] [(.int (pos + (1 : Int32))), (.ref a1), (.ref b)])) _
        refine XS.dupX1 X122.here hx rfl (hb hby d6_50) rfl rfl rfl ?_
        show Steps p.tables e below (T122.setTop (mkF m 51 #[.val (.ref a1), .val (.long ((0 : Int64) ||| ((((atv cl pos) &&& (127 : Int32)).toInt64) <<< ((0 : Int32) &&& 0x3f).toInt64))), .second, .val (.int ((0 : Int32) + (7 : Int32))), .val (.int (atv cl pos))] [(.int (pos + (1 : Int32))), (.ref a1), (.int (pos + (1 : Int32))), (.ref b)])) _
        refine XS.iconst X122.here hx rfl (hb hby d6_51) ?_
        show Steps p.tables e below (T122.setTop (mkF m 52 #[.val (.ref a1), .val (.long ((0 : Int64) ||| ((((atv cl pos) &&& (127 : Int32)).toInt64) <<< ((0 : Int32) &&& 0x3f).toInt64))), .second, .val (.int ((0 : Int32) + (7 : Int32))), .val (.int (atv cl pos))] [(.int (1 : Int32)), (.int (pos + (1 : Int32))), (.ref a1), (.int (pos + (1 : Int32))), (.ref b)])) _
        refine XS.iadd X122.here hx rfl (hb hby d6_52) rfl ?_
        show Steps p.tables e below (T122.setTop (mkF m 53 #[.val (.ref a1), .val (.long ((0 : Int64) ||| ((((atv cl pos) &&& (127 : Int32)).toInt64) <<< ((0 : Int32) &&& 0x3f).toInt64))), .second, .val (.int ((0 : Int32) + (7 : Int32))), .val (.int (atv cl pos))] [(.int ((pos + (1 : Int32)) + (1 : Int32))), (.ref a1), (.int (pos + (1 : Int32))), (.ref b)])) _
        refine st123 _ ?_
        show Steps p.tables e below (T123.setTop (mkF m 56 #[.val (.ref a1), .val (.long ((0 : Int64) ||| ((((atv cl pos) &&& (127 : Int32)).toInt64) <<< ((0 : Int32) &&& 0x3f).toInt64))), .second, .val (.int ((0 : Int32) + (7 : Int32))), .val (.int (atv cl pos))] [(.int (pos + (1 : Int32))), (.ref b)])) _
        refine X123.baloadBytes hx (j := (pos + (1 : Int32))) (v := (.int (atv cl (pos + (1 : Int32))))) (by rw [e123]; exact Ar127.1) (State.isArrayOf_alike hZ.alike Ar127.2.1) Ar127.2.2 (hall (pos + (1 : Int32)) (by omega) (by omega)).1 (hall (pos + (1 : Int32)) (by omega) (by omega)).2 (g := (mkF m 56 #[.val (.ref a1), .val (.long ((0 : Int64) ||| ((((atv cl pos) &&& (127 : Int32)).toInt64) <<< ((0 : Int32) &&& 0x3f).toInt64))), .second, .val (.int ((0 : Int32) + (7 : Int32))), .val (.int (atv cl pos))] [(.int (pos + (1 : Int32))), (.ref b)])) rfl rfl (hb hby d6_56) _ ?_
        show Steps p.tables e below (T123.setTop (mkF m 57 #[.val (.ref a1), .val (.long ((0 : Int64) ||| ((((atv cl pos) &&& (127 : Int32)).toInt64) <<< ((0 : Int32) &&& 0x3f).toInt64))), .second, .val (.int ((0 : Int32) + (7 : Int32))), .val (.int (atv cl pos))] [(.int (atv cl (pos + (1 : Int32))))])) _
        refine XS.istore X123.here hx rfl (hb hby d6_57) rfl (l' := #[.val (.ref a1), .val (.long ((0 : Int64) ||| ((((atv cl pos) &&& (127 : Int32)).toInt64) <<< ((0 : Int32) &&& 0x3f).toInt64))), .second, .val (.int ((0 : Int32) + (7 : Int32))), .val (.int (atv cl (pos + (1 : Int32))))]) rfl ?_
        show Steps p.tables e below (T123.setTop (mkF m 59 #[.val (.ref a1), .val (.long ((0 : Int64) ||| ((((atv cl pos) &&& (127 : Int32)).toInt64) <<< ((0 : Int32) &&& 0x3f).toInt64))), .second, .val (.int ((0 : Int32) + (7 : Int32))), .val (.int (atv cl (pos + (1 : Int32))))] [])) _
        refine XS.lloadN X123.here hx rfl (hb hby d6_59) rfl ?_
        show Steps p.tables e below (T123.setTop (mkF m 60 #[.val (.ref a1), .val (.long ((0 : Int64) ||| ((((atv cl pos) &&& (127 : Int32)).toInt64) <<< ((0 : Int32) &&& 0x3f).toInt64))), .second, .val (.int ((0 : Int32) + (7 : Int32))), .val (.int (atv cl (pos + (1 : Int32))))] [(.long ((0 : Int64) ||| ((((atv cl pos) &&& (127 : Int32)).toInt64) <<< ((0 : Int32) &&& 0x3f).toInt64)))])) _
        refine XS.iload X123.here hx rfl (hb hby d6_60) rfl ?_
        show Steps p.tables e below (T123.setTop (mkF m 62 #[.val (.ref a1), .val (.long ((0 : Int64) ||| ((((atv cl pos) &&& (127 : Int32)).toInt64) <<< ((0 : Int32) &&& 0x3f).toInt64))), .second, .val (.int ((0 : Int32) + (7 : Int32))), .val (.int (atv cl (pos + (1 : Int32))))] [(.int (atv cl (pos + (1 : Int32)))), (.long ((0 : Int64) ||| ((((atv cl pos) &&& (127 : Int32)).toInt64) <<< ((0 : Int32) &&& 0x3f).toInt64)))])) _
        refine XS.bipush X123.here hx rfl (hb hby d6_62) ?_
        show Steps p.tables e below (T123.setTop (mkF m 64 #[.val (.ref a1), .val (.long ((0 : Int64) ||| ((((atv cl pos) &&& (127 : Int32)).toInt64) <<< ((0 : Int32) &&& 0x3f).toInt64))), .second, .val (.int ((0 : Int32) + (7 : Int32))), .val (.int (atv cl (pos + (1 : Int32))))] [(.int (127 : Int32)), (.int (atv cl (pos + (1 : Int32)))), (.long ((0 : Int64) ||| ((((atv cl pos) &&& (127 : Int32)).toInt64) <<< ((0 : Int32) &&& 0x3f).toInt64)))])) _
        refine XS.iand X123.here hx rfl (hb hby d6_64) rfl ?_
        show Steps p.tables e below (T123.setTop (mkF m 65 #[.val (.ref a1), .val (.long ((0 : Int64) ||| ((((atv cl pos) &&& (127 : Int32)).toInt64) <<< ((0 : Int32) &&& 0x3f).toInt64))), .second, .val (.int ((0 : Int32) + (7 : Int32))), .val (.int (atv cl (pos + (1 : Int32))))] [(.int ((atv cl (pos + (1 : Int32))) &&& (127 : Int32))), (.long ((0 : Int64) ||| ((((atv cl pos) &&& (127 : Int32)).toInt64) <<< ((0 : Int32) &&& 0x3f).toInt64)))])) _
        refine XS.i2l X123.here hx rfl (hb hby d6_65) rfl ?_
        show Steps p.tables e below (T123.setTop (mkF m 66 #[.val (.ref a1), .val (.long ((0 : Int64) ||| ((((atv cl pos) &&& (127 : Int32)).toInt64) <<< ((0 : Int32) &&& 0x3f).toInt64))), .second, .val (.int ((0 : Int32) + (7 : Int32))), .val (.int (atv cl (pos + (1 : Int32))))] [(.long (((atv cl (pos + (1 : Int32))) &&& (127 : Int32)).toInt64)), (.long ((0 : Int64) ||| ((((atv cl pos) &&& (127 : Int32)).toInt64) <<< ((0 : Int32) &&& 0x3f).toInt64)))])) _
        refine XS.iloadN X123.here hx rfl (hb hby d6_66) rfl ?_
        show Steps p.tables e below (T123.setTop (mkF m 67 #[.val (.ref a1), .val (.long ((0 : Int64) ||| ((((atv cl pos) &&& (127 : Int32)).toInt64) <<< ((0 : Int32) &&& 0x3f).toInt64))), .second, .val (.int ((0 : Int32) + (7 : Int32))), .val (.int (atv cl (pos + (1 : Int32))))] [(.int ((0 : Int32) + (7 : Int32))), (.long (((atv cl (pos + (1 : Int32))) &&& (127 : Int32)).toInt64)), (.long ((0 : Int64) ||| ((((atv cl pos) &&& (127 : Int32)).toInt64) <<< ((0 : Int32) &&& 0x3f).toInt64)))])) _
        refine XS.lshl X123.here hx rfl (hb hby d6_67) rfl ?_
        show Steps p.tables e below (T123.setTop (mkF m 68 #[.val (.ref a1), .val (.long ((0 : Int64) ||| ((((atv cl pos) &&& (127 : Int32)).toInt64) <<< ((0 : Int32) &&& 0x3f).toInt64))), .second, .val (.int ((0 : Int32) + (7 : Int32))), .val (.int (atv cl (pos + (1 : Int32))))] [(.long ((((atv cl (pos + (1 : Int32))) &&& (127 : Int32)).toInt64) <<< (((0 : Int32) + (7 : Int32)) &&& 0x3f).toInt64)), (.long ((0 : Int64) ||| ((((atv cl pos) &&& (127 : Int32)).toInt64) <<< ((0 : Int32) &&& 0x3f).toInt64)))])) _
        refine XS.lor X123.here hx rfl (hb hby d6_68) rfl ?_
        show Steps p.tables e below (T123.setTop (mkF m 69 #[.val (.ref a1), .val (.long ((0 : Int64) ||| ((((atv cl pos) &&& (127 : Int32)).toInt64) <<< ((0 : Int32) &&& 0x3f).toInt64))), .second, .val (.int ((0 : Int32) + (7 : Int32))), .val (.int (atv cl (pos + (1 : Int32))))] [(.long (((0 : Int64) ||| ((((atv cl pos) &&& (127 : Int32)).toInt64) <<< ((0 : Int32) &&& 0x3f).toInt64)) ||| ((((atv cl (pos + (1 : Int32))) &&& (127 : Int32)).toInt64) <<< (((0 : Int32) + (7 : Int32)) &&& 0x3f).toInt64)))])) _
        refine XS.lstoreN X123.here hx rfl (hb hby d6_69) rfl (l' := #[.val (.ref a1), .val (.long (((0 : Int64) ||| ((((atv cl pos) &&& (127 : Int32)).toInt64) <<< ((0 : Int32) &&& 0x3f).toInt64)) ||| ((((atv cl (pos + (1 : Int32))) &&& (127 : Int32)).toInt64) <<< (((0 : Int32) + (7 : Int32)) &&& 0x3f).toInt64))), .second, .val (.int ((0 : Int32) + (7 : Int32))), .val (.int (atv cl (pos + (1 : Int32))))]) rfl ?_
        show Steps p.tables e below (T123.setTop (mkF m 70 #[.val (.ref a1), .val (.long (((0 : Int64) ||| ((((atv cl pos) &&& (127 : Int32)).toInt64) <<< ((0 : Int32) &&& 0x3f).toInt64)) ||| ((((atv cl (pos + (1 : Int32))) &&& (127 : Int32)).toInt64) <<< (((0 : Int32) + (7 : Int32)) &&& 0x3f).toInt64))), .second, .val (.int ((0 : Int32) + (7 : Int32))), .val (.int (atv cl (pos + (1 : Int32))))] [])) _
        refine XS.iinc X123.here hx rfl (hb hby d6_70) rfl (l' := #[.val (.ref a1), .val (.long (((0 : Int64) ||| ((((atv cl pos) &&& (127 : Int32)).toInt64) <<< ((0 : Int32) &&& 0x3f).toInt64)) ||| ((((atv cl (pos + (1 : Int32))) &&& (127 : Int32)).toInt64) <<< (((0 : Int32) + (7 : Int32)) &&& 0x3f).toInt64))), .second, .val (.int (((0 : Int32) + (7 : Int32)) + (7 : Int32))), .val (.int (atv cl (pos + (1 : Int32))))]) rfl ?_
        show Steps p.tables e below (T123.setTop (mkF m 73 #[.val (.ref a1), .val (.long (((0 : Int64) ||| ((((atv cl pos) &&& (127 : Int32)).toInt64) <<< ((0 : Int32) &&& 0x3f).toInt64)) ||| ((((atv cl (pos + (1 : Int32))) &&& (127 : Int32)).toInt64) <<< (((0 : Int32) + (7 : Int32)) &&& 0x3f).toInt64))), .second, .val (.int (((0 : Int32) + (7 : Int32)) + (7 : Int32))), .val (.int (atv cl (pos + (1 : Int32))))] [])) _
        refine XS.iload X123.here hx rfl (hb hby d6_73) rfl ?_
        show Steps p.tables e below (T123.setTop (mkF m 75 #[.val (.ref a1), .val (.long (((0 : Int64) ||| ((((atv cl pos) &&& (127 : Int32)).toInt64) <<< ((0 : Int32) &&& 0x3f).toInt64)) ||| ((((atv cl (pos + (1 : Int32))) &&& (127 : Int32)).toInt64) <<< (((0 : Int32) + (7 : Int32)) &&& 0x3f).toInt64))), .second, .val (.int (((0 : Int32) + (7 : Int32)) + (7 : Int32))), .val (.int (atv cl (pos + (1 : Int32))))] [(.int (atv cl (pos + (1 : Int32))))])) _
        refine XS.sipush X123.here hx rfl (hb hby d6_75) ?_
        show Steps p.tables e below (T123.setTop (mkF m 78 #[.val (.ref a1), .val (.long (((0 : Int64) ||| ((((atv cl pos) &&& (127 : Int32)).toInt64) <<< ((0 : Int32) &&& 0x3f).toInt64)) ||| ((((atv cl (pos + (1 : Int32))) &&& (127 : Int32)).toInt64) <<< (((0 : Int32) + (7 : Int32)) &&& 0x3f).toInt64))), .second, .val (.int (((0 : Int32) + (7 : Int32)) + (7 : Int32))), .val (.int (atv cl (pos + (1 : Int32))))] [(.int (128 : Int32)), (.int (atv cl (pos + (1 : Int32))))])) _
        refine XS.iand X123.here hx rfl (hb hby d6_78) rfl ?_
        exact k9)
    have b129 : ((atv cl (pos + (1 : Int32))) &&& (128 : Int32)).toInt = (0 : Int) := by exact h2'.2
    have pre130 : ∀ t, Steps p.tables e below (T123.setTop (mkF m 83 #[.val (.ref a1), .val (.long (((0 : Int64) ||| ((((atv cl pos) &&& (127 : Int32)).toInt64) <<< ((0 : Int32) &&& 0x3f).toInt64)) ||| ((((atv cl (pos + (1 : Int32))) &&& (127 : Int32)).toInt64) <<< (((0 : Int32) + (7 : Int32)) &&& 0x3f).toInt64))), .second, .val (.int (((0 : Int32) + (7 : Int32)) + (7 : Int32))), .val (.int (atv cl (pos + (1 : Int32))))] [(.long (((0 : Int64) ||| ((((atv cl pos) &&& (127 : Int32)).toInt64) <<< ((0 : Int32) &&& 0x3f).toInt64)) ||| ((((atv cl (pos + (1 : Int32))) &&& (127 : Int32)).toInt64) <<< (((0 : Int32) + (7 : Int32)) &&& 0x3f).toInt64)))])) t → Steps p.tables e below (s₁.setTop (entryFrame m #[(.ref a1)] 5)) t := fun t9 k9 => pre128 t9 (by
        show Steps p.tables e below (T123.setTop (mkF m 79 #[.val (.ref a1), .val (.long (((0 : Int64) ||| ((((atv cl pos) &&& (127 : Int32)).toInt64) <<< ((0 : Int32) &&& 0x3f).toInt64)) ||| ((((atv cl (pos + (1 : Int32))) &&& (127 : Int32)).toInt64) <<< (((0 : Int32) + (7 : Int32)) &&& 0x3f).toInt64))), .second, .val (.int (((0 : Int32) + (7 : Int32)) + (7 : Int32))), .val (.int (atv cl (pos + (1 : Int32))))] [(.int ((atv cl (pos + (1 : Int32))) &&& (128 : Int32)))])) _
        refine XS.ifNo X123.here hx rfl (hb hby d6_79) rfl ((if0 _ _).trans (own_ne_f (a := ((atv cl (pos + (1 : Int32))) &&& (128 : Int32)).toInt) (b := (0 : Int)) rfl (by decide) b129)) ?_
        show Steps p.tables e below (T123.setTop (mkF m 82 #[.val (.ref a1), .val (.long (((0 : Int64) ||| ((((atv cl pos) &&& (127 : Int32)).toInt64) <<< ((0 : Int32) &&& 0x3f).toInt64)) ||| ((((atv cl (pos + (1 : Int32))) &&& (127 : Int32)).toInt64) <<< (((0 : Int32) + (7 : Int32)) &&& 0x3f).toInt64))), .second, .val (.int (((0 : Int32) + (7 : Int32)) + (7 : Int32))), .val (.int (atv cl (pos + (1 : Int32))))] [])) _
        refine XS.lloadN X123.here hx rfl (hb hby d6_82) rfl ?_
        exact k9)
    have hv : own_next cl pos = ((pos + (1 : Int32)) + (1 : Int32)) := by unfold own_next; exact if_neg (by assumption)
    obtain ⟨fs, hr, hrun, hended, hW, hsame⟩ := X123.leave (v := some (.long (((0 : Int64) ||| ((((atv cl pos) &&& (127 : Int32)).toInt64) <<< ((0 : Int32) &&& 0x3f).toInt64)) ||| ((((atv cl (pos + (1 : Int32))) &&& (127 : Int32)).toInt64) <<< (((0 : Int32) + (7 : Int32)) &&& 0x3f).toInt64)))) (fun h => by rw [Bd.returns] at h; cases h)
    refine ⟨_, _, pre130 _ ?_, hrun, hended, _, _, rfl, ?_, ⟨_, rfl⟩, hW, hsame.mono (by decide) (by decide)⟩
    · show Steps p.tables e below (T123.setTop (mkF m 83 #[.val (.ref a1), .val (.long (((0 : Int64) ||| ((((atv cl pos) &&& (127 : Int32)).toInt64) <<< ((0 : Int32) &&& 0x3f).toInt64)) ||| ((((atv cl (pos + (1 : Int32))) &&& (127 : Int32)).toInt64) <<< (((0 : Int32) + (7 : Int32)) &&& 0x3f).toInt64))), .second, .val (.int (((0 : Int32) + (7 : Int32)) + (7 : Int32))), .val (.int (atv cl (pos + (1 : Int32))))] [(.long (((0 : Int64) ||| ((((atv cl pos) &&& (127 : Int32)).toInt64) <<< ((0 : Int32) &&& 0x3f).toInt64)) ||| ((((atv cl (pos + (1 : Int32))) &&& (127 : Int32)).toInt64) <<< (((0 : Int32) + (7 : Int32)) &&& 0x3f).toInt64)))])) _
      exact X123.lreturnOut hx Bd.returns (hb hby d6_83) hr
    · show Q6 Z a1 b cl n pos h0 n0 _ T123.heap _
      rw [e123]
      exact ⟨_, rfl, N123, K123, E124, F125, F126, by rw [hv]; exact Fw123⟩
theorem d5_0 : decode prog_42_method_6_code 0 = .ok (.lconst 0, 1) := by decide +kernel
theorem d5_1 : decode prog_42_method_6_code 1 = .ok (.lstore_n 3, 1) := by decide +kernel
theorem d5_2 : decode prog_42_method_6_code 2 = .ok (.lload_n 3, 1) := by decide +kernel
theorem d5_3 : decode prog_42_method_6_code 3 = .ok (.lload_n 1, 1) := by decide +kernel
theorem d5_4 : decode prog_42_method_6_code 4 = .ok (.lcmp, 1) := by decide +kernel
theorem d5_5 : decode prog_42_method_6_code 5 = .ok (.ifCond .ge 15, 3) := by decide +kernel
theorem d5_8 : decode prog_42_method_6_code 8 = .ok (.aload_n 0, 1) := by decide +kernel
theorem d5_9 : decode prog_42_method_6_code 9 = .ok (.invokevirtual 32, 3) := by decide +kernel
theorem d5_12 : decode prog_42_method_6_code 12 = .ok (.pop2, 1) := by decide +kernel
theorem d5_13 : decode prog_42_method_6_code 13 = .ok (.lload_n 3, 1) := by decide +kernel
theorem d5_14 : decode prog_42_method_6_code 14 = .ok (.lconst 1, 1) := by decide +kernel
theorem d5_15 : decode prog_42_method_6_code 15 = .ok (.ladd, 1) := by decide +kernel
theorem d5_16 : decode prog_42_method_6_code 16 = .ok (.lstore_n 3, 1) := by decide +kernel
theorem d5_17 : decode prog_42_method_6_code 17 = .ok (.goto (-15), 3) := by decide +kernel
theorem d5_20 : decode prog_42_method_6_code 20 = .ok (.return_, 1) := by decide +kernel
theorem pd_5_0 : parseMethodDescriptor "()J" = some ⟨[], some .long⟩ := by decide +kernel
set_option maxRecDepth 65536 in
set_option maxHeartbeats 40000000 in
theorem loop5 {p : Program} {l : Launch} {e : Env} {s : State} {m : MethodId} {args : Array Value} {below : List Frame} {meth : Method} {c : Code} {Z : State} {a0 : Array Value} (a1 : Addr) (q2 : Int64) (b : Addr) (cl : Cell) (n : Int32) (cc : Int) (n0 : Nat) (hx : p.tables.exec = Jvm.exec) (hZ : Z.Warmed39 s.vm) (hw : ∀ d ∈ tables_1, d.before a0 Z = true) (hby : c.code = prog_42_method_6_code) (hml : c.maxLocals = 5) (hown : s.vm.findClass "com/example/pesquisa/pesquisa/index/ByteSource" = some m.cls) (g_a1 : n0 ≤ a1) (hne : b ≠ a1) (hall : own_in cl) (hbits : own_bits cl) (hc : (cc = 0 ∧ ((atv cl 0) &&& (128 : Int32)).toInt = 0) ∨ (cc = 1 ∧ ¬ (((atv cl 0) &&& (128 : Int32)).toInt = 0))) (hk : 0 < q2.toInt → q2.toInt + cc ≤ n.toInt) (hn6 : n.toInt ≤ 6) :
    ∀ (k : Nat) (j : Int64) (pos : Int32) (T0 : State) (h0 : Heap) (locs : List Loc), 0 ≤ j.toInt → j.toInt + k = q2.toInt → pos.toInt = own_at cc j.toInt → Stand p l e ({ frames := 1, cells := 0, slots := 0, locals := 16 } : Room) s m args below meth c T0 locs 0 0 → T0.heap = h0 → Fr n0 locs → n0 ≤ h0.size → Arr Z h0 b cl .byte → Exa Z h0 a1 "com/example/pesquisa/pesquisa/index/ByteSource" → Fld Z h0 a1 "com/example/pesquisa/pesquisa/index/ByteSource" "bytes" "[B" (.ref b) → Fld Z h0 a1 "com/example/pesquisa/pesquisa/index/ByteSource" "end" "I" (.int n) → Fld Z h0 a1 "com/example/pesquisa/pesquisa/index/ByteSource" "position" "I" (.int pos) →
      ∃ (T' : State) (h' : Heap) (locs' : List Loc) (pos' : Int32), Stand p l e ({ frames := 1, cells := 0, slots := 0, locals := 16 } : Room) s m args below meth c T' locs' 0 0 ∧ T'.heap = h' ∧ Fr n0 locs' ∧ Keep h0 h' [a1] ∧ Exa Z h' a1 "com/example/pesquisa/pesquisa/index/ByteSource" ∧ Fld Z h' a1 "com/example/pesquisa/pesquisa/index/ByteSource" "bytes" "[B" (.ref b) ∧ Fld Z h' a1 "com/example/pesquisa/pesquisa/index/ByteSource" "end" "I" (.int n) ∧ Fld Z h' a1 "com/example/pesquisa/pesquisa/index/ByteSource" "position" "I" (.int pos') ∧ pos'.toInt = own_at cc q2.toInt ∧ ∀ t, Steps p.tables e below (T'.setTop (mkF m 20 #[.val (.ref a1), .val (.long q2), .second, .val (.long q2), .second] [])) t → Steps p.tables e below (T0.setTop (mkF m 2 #[.val (.ref a1), .val (.long q2), .second, .val (.long j), .second] [])) t := by
  intro k
  induction k with
  | zero =>
    intro j pos T0 h0 locs hj hjk hpos X0 e0 N0 Z0 Ar E_a1 F_bytes F_end F_position
    obtain rfl : j = q2 := Int64.toInt_inj.mp (by omega)
    have pre101 : ∀ t, Steps p.tables e below (T0.setTop (mkF m 5 #[.val (.ref a1), .val (.long j), .second, .val (.long j), .second] [(.int (lcmpW j j))])) t → Steps p.tables e below (T0.setTop (mkF m 2 #[.val (.ref a1), .val (.long j), .second, .val (.long j), .second] [])) t := fun t9 k9 => (by
        show Steps p.tables e below (T0.setTop (mkF m 2 #[.val (.ref a1), .val (.long j), .second, .val (.long j), .second] [])) _
        refine XS.lloadN X0.here hx rfl (hb hby d5_2) rfl ?_
        show Steps p.tables e below (T0.setTop (mkF m 3 #[.val (.ref a1), .val (.long j), .second, .val (.long j), .second] [(.long j)])) _
        refine XS.lloadN X0.here hx rfl (hb hby d5_3) rfl ?_
        show Steps p.tables e below (T0.setTop (mkF m 4 #[.val (.ref a1), .val (.long j), .second, .val (.long j), .second] [(.long j), (.long j)])) _
        refine XS.lcmp X0.here hx rfl (hb hby d5_4) rfl ?_
        exact k9)
    have b102 : ¬ (j.toInt < j.toInt) := by omega
    have pre103 : ∀ t, Steps p.tables e below (T0.setTop (mkF m 20 #[.val (.ref a1), .val (.long j), .second, .val (.long j), .second] [])) t → Steps p.tables e below (T0.setTop (mkF m 2 #[.val (.ref a1), .val (.long j), .second, .val (.long j), .second] [])) t := fun t9 k9 => pre101 t9 (by
        show Steps p.tables e below (T0.setTop (mkF m 5 #[.val (.ref a1), .val (.long j), .second, .val (.long j), .second] [(.int (lcmpW j j))])) _
        refine XS.ifYes X0.here hx rfl (pc0 := 5) (pc' := 20) rfl (hb hby d5_5) rfl (own_Lge_t (a := j.toInt) (b := j.toInt) rfl rfl b102) (by decide) (by decide) ?_
        exact k9)
    exact ⟨T0, h0, locs, pos, X0, e0, N0, Keep.refl h0 [a1], E_a1, F_bytes, F_end, F_position, hpos, pre103⟩
  | succ k ih =>
    intro j pos T0 h0 locs hj hjk hpos X0 e0 N0 Z0 Ar E_a1 F_bytes F_end F_position
    have hk1 := hk (by omega)
    have hjs : ¬ (j.toInt = 0) → pos.toInt = j.toInt + cc := fun z => by rw [hpos]; exact own_at_s cc _ z
    have hjz : j.toInt = 0 → pos = 0 := fun z => Int32.toInt_inj.mp (by rw [hpos, z, own_at_0]; decide)
    have hcc : cc = 0 ∨ cc = 1 := by omega
    have hr0 : 0 ≤ pos.toInt := by
      by_cases z : j.toInt = 0
      · rw [hjz z]; decide
      · have := hjs z; omega
    have hr1 : pos.toInt < n.toInt := by
      by_cases z : j.toInt = 0
      · have q : pos.toInt = 0 := by rw [hjz z]; decide
        omega
      · have := hjs z; omega
    have hp1 := own_add1 pos (by omega)
    have hp2 := own_add1 (pos + (1 : Int32)) (by omega)
    have hr2 : ¬ (((atv cl pos) &&& (128 : Int32)).toInt = 0) → pos.toInt + 1 < n.toInt ∧ ((atv cl (pos + (1 : Int32))) &&& (128 : Int32)).toInt = 0 := by
      intro q
      by_cases z : j.toInt = 0
      · have q0 := hjz z
        have q1 : pos.toInt = 0 := by rw [q0]; decide
        rw [q0] at q
        exact ⟨by omega, hbits _ (by omega) (by omega)⟩
      · have := hjs z
        exact absurd (hbits pos (by omega) (by omega)) q
    have hj1 := own_add1L j (by omega)
    have hnext : (own_next cl pos).toInt = own_at cc (j + (1 : Int64)).toInt := by
      rw [own_at_s cc (j + (1 : Int64)).toInt (by omega)]
      unfold own_next
      by_cases z : j.toInt = 0
      · have q0 := hjz z
        have q1 : pos.toInt = 0 := by rw [q0]; decide
        by_cases u : ((atv cl pos) &&& (128 : Int32)).toInt = 0
        · rw [if_pos u]; rw [q0] at u; omega
        · rw [if_neg u]; rw [q0] at u; omega
      · have := hjs z
        rw [if_pos (hbits pos (by omega) (by omega))]; omega
    have pre104 : ∀ t, Steps p.tables e below (T0.setTop (mkF m 5 #[.val (.ref a1), .val (.long q2), .second, .val (.long j), .second] [(.int (lcmpW j q2))])) t → Steps p.tables e below (T0.setTop (mkF m 2 #[.val (.ref a1), .val (.long q2), .second, .val (.long j), .second] [])) t := fun t9 k9 => (by
        show Steps p.tables e below (T0.setTop (mkF m 2 #[.val (.ref a1), .val (.long q2), .second, .val (.long j), .second] [])) _
        refine XS.lloadN X0.here hx rfl (hb hby d5_2) rfl ?_
        show Steps p.tables e below (T0.setTop (mkF m 3 #[.val (.ref a1), .val (.long q2), .second, .val (.long j), .second] [(.long j)])) _
        refine XS.lloadN X0.here hx rfl (hb hby d5_3) rfl ?_
        show Steps p.tables e below (T0.setTop (mkF m 4 #[.val (.ref a1), .val (.long q2), .second, .val (.long j), .second] [(.long q2), (.long j)])) _
        refine XS.lcmp X0.here hx rfl (hb hby d5_4) rfl ?_
        exact k9)
    have b105 : j.toInt < q2.toInt := by omega
    obtain ⟨cq106, kq106, q106a, q106b, q106c⟩ := isOf hZ e0 E_a1
    obtain ⟨_, _, ⟨T106, L106, k106, n106⟩, -, X106, ⟨Lc106, hQ106, l106, y106, z106⟩, st106⟩ := X0.virtualBack hx (y := (⟨"com/example/pesquisa/pesquisa/index/ByteSource", "readNumber", "()J"⟩ : MethodName)) (z := (⟨"com/example/pesquisa/pesquisa/index/ByteSource", "readNumber", "()J"⟩ : MethodName)) hown (mvT hZ (hw _ (List.mem_of_getElem? (i := 32) rfl))) (mvT hZ (hw _ (List.mem_of_getElem? (i := 33) rfl))) (notFace_of_selects (args := #[]) (mvT hZ (hw _ (List.mem_of_getElem? (i := 35) rfl)))) (mvT hZ (hw _ (List.mem_of_getElem? (i := 35) rfl))) (mvT hZ (hw _ (List.mem_of_getElem? (i := 34) rfl))) (by decide) (backOf (W := 0) (rm6 l Z a0 hw [] a1 b cl n pos h0 n0 Z0 E_a1 F_bytes F_end F_position g_a1 Ar hne hall hr0 hr1 hn6 hr2) hZ (hw _ (List.mem_of_getElem? (i := 36) rfl)) (hw _ (List.mem_of_getElem? (i := 5) rfl)) (by decide) (by decide)) q106a q106c (g := (mkF m 9 #[.val (.ref a1), .val (.long q2), .second, .val (.long j), .second] [(.ref a1)])) rfl (by rw [hml]; rfl) (Steps.refl _) (argsL := []) (rest := []) (lenOf pd_5_0 rfl) rfl (by show 2 * 0 + _ ≤ _; exact Nat.le_of_eq rfl) (hb hby d5_9) (fun _ _ => ⟨rfl, e0, (by decide : 0 + 0 ≤ _), (by decide : 0 + 0 ≤ _)⟩)
    dsimp only [Pt.U, Pt.locs, Pt.cells, Pt.slots] at X106 l106 y106 z106 st106 hQ106
    subst l106 y106 z106
    obtain ⟨r106, hv106, N106q, K106, E106x, Fb106, Fe106, Fp106⟩ := hQ106
    subst hv106
    have N106 := Fr.app N0 N106q
    have Ek107 := E_a1.keep K106
    have Ak108 := own_arr_keep Ar K106 (ninS hne nin0)
    have KK106 := (Keep.refl h0 [a1]).trans K106 (allS (Or.inl (List.mem_of_getElem? (i := 0) rfl)) all0)
    have Z106 : n0 ≤ T106.heap.size := Nat.le_trans Z0 K106.1
    have pre109 : ∀ t, Steps p.tables e below (T106.setTop (mkF m 2 #[.val (.ref a1), .val (.long q2), .second, .val (.long (j + (1 : Int64))), .second] [])) t → Steps p.tables e below (T0.setTop (mkF m 2 #[.val (.ref a1), .val (.long q2), .second, .val (.long j), .second] [])) t := fun t9 k9 => pre104 t9 (by
        show Steps p.tables e below (T0.setTop (mkF m 5 #[.val (.ref a1), .val (.long q2), .second, .val (.long j), .second] [(.int (lcmpW j q2))])) _
        refine XS.ifNo X0.here hx rfl (hb hby d5_5) rfl (own_Lge_f (a := j.toInt) (b := q2.toInt) rfl rfl b105) ?_
        show Steps p.tables e below (T0.setTop (mkF m 8 #[.val (.ref a1), .val (.long q2), .second, .val (.long j), .second] [])) _
        refine XS.aloadN X0.here hx rfl (hb hby d5_8) rfl rfl ?_
        show Steps p.tables e below (T0.setTop (mkF m 9 #[.val (.ref a1), .val (.long q2), .second, .val (.long j), .second] [(.ref a1)])) _
        refine st106.trans ?_
        show Steps p.tables e below (T106.setTop (mkF m 12 #[.val (.ref a1), .val (.long q2), .second, .val (.long j), .second] [(.long r106)])) _
        jvm_step X106.here [X106.here.top, hx, (hb hby d5_12), Value.category]
        show Steps p.tables e below (T106.setTop (mkF m 13 #[.val (.ref a1), .val (.long q2), .second, .val (.long j), .second] [])) _
        refine XS.lloadN X106.here hx rfl (hb hby d5_13) rfl ?_
        show Steps p.tables e below (T106.setTop (mkF m 14 #[.val (.ref a1), .val (.long q2), .second, .val (.long j), .second] [(.long j)])) _
        refine XS.lconst X106.here hx rfl (hb hby d5_14) ?_
        show Steps p.tables e below (T106.setTop (mkF m 15 #[.val (.ref a1), .val (.long q2), .second, .val (.long j), .second] [(.long (1 : Int64)), (.long j)])) _
        refine XS.ladd X106.here hx rfl (hb hby d5_15) rfl ?_
        show Steps p.tables e below (T106.setTop (mkF m 16 #[.val (.ref a1), .val (.long q2), .second, .val (.long j), .second] [(.long (j + (1 : Int64)))])) _
        refine XS.lstoreN X106.here hx rfl (hb hby d5_16) rfl (l' := #[.val (.ref a1), .val (.long q2), .second, .val (.long (j + (1 : Int64))), .second]) rfl ?_
        show Steps p.tables e below (T106.setTop (mkF m 17 #[.val (.ref a1), .val (.long q2), .second, .val (.long (j + (1 : Int64))), .second] [])) _
        refine XS.goto X106.here hx rfl (pc0 := 17) (pc' := 2) rfl (hb hby d5_17) (by decide) (by decide) ?_
        exact k9)
    obtain ⟨T', h', locs', pos', Xq, eq, Nq, Kq, Eq, Fbq, Feq, Fpq, hpq, stq⟩ := ih (j + (1 : Int64)) (own_next cl pos) T106 T106.heap _ (by omega) (by omega) hnext X106 rfl N106 Z106 Ak108 E106x Fb106 Fe106 Fp106
    exact ⟨T', h', locs', pos', Xq, eq, Nq, KK106.trans Kq (allS (Or.inl (List.mem_of_getElem? (i := 0) rfl)) all0), Eq, Fbq, Feq, Fpq, hpq, fun t kk => pre109 t (stq t kk)⟩
theorem pn_5 : plainName "com/example/pesquisa/pesquisa/index/ByteSource" = true := by first | (simp [plainName, overriddenIn]; done) | decide +kernel
theorem ef_5 (m : MethodId) (a1 : Addr) (q2 : Int64) : entryFrame m #[(.ref a1), (.long q2)] 5 = mkF m 0 #[.val (.ref a1), .val (.long q2), .second, .unset, .unset] [] := by first | (simp [entryFrame, mkF, argsToLocals, Value.category]; done) | rfl
def Q5 (Z : State) (a1 : Addr) (q2 : Int64) (b : Addr) (cl : Cell) (n : Int32) (cc : Int) (h0 : Heap) (n0 : Nat) (v : Option Value) (h : Heap) (L : List Loc) : Prop := ∃ pos' : Int32, v = none ∧ Fr n0 L ∧ Keep h0 h [a1] ∧ Exa Z h a1 "com/example/pesquisa/pesquisa/index/ByteSource" ∧ Fld Z h a1 "com/example/pesquisa/pesquisa/index/ByteSource" "bytes" "[B" (.ref b) ∧ Fld Z h a1 "com/example/pesquisa/pesquisa/index/ByteSource" "end" "I" (.int n) ∧ Fld Z h a1 "com/example/pesquisa/pesquisa/index/ByteSource" "position" "I" (.int pos') ∧ pos'.toInt = own_at cc q2.toInt
set_option maxRecDepth 65536 in
set_option maxHeartbeats 40000000 in
theorem rm5 (l : Launch) (Z : State) (a0 : Array Value) (hw : ∀ d ∈ tables_1, d.before a0 Z = true) (ws : List Jvm.Cond) (a1 : Addr) (q2 : Int64) (b : Addr) (cl : Cell) (n : Int32) (cc : Int) (h0 : Heap) (n0 : Nat) (Z0 : n0 ≤ h0.size) (E_a1 : Exa Z h0 a1 "com/example/pesquisa/pesquisa/index/ByteSource") (F_bytes : Fld Z h0 a1 "com/example/pesquisa/pesquisa/index/ByteSource" "bytes" "[B" (.ref b)) (F_end : Fld Z h0 a1 "com/example/pesquisa/pesquisa/index/ByteSource" "end" "I" (.int n)) (F_position : Fld Z h0 a1 "com/example/pesquisa/pesquisa/index/ByteSource" "position" "I" (.int (0 : Int32))) (g_a1 : n0 ≤ a1) (Ar : Arr Z h0 b cl .byte) (hne : b ≠ a1) (hall : own_in cl) (hbits : own_bits cl) (hc : (cc = 0 ∧ ((atv cl 0) &&& (128 : Int32)).toInt = 0) ∨ (cc = 1 ∧ ¬ (((atv cl 0) &&& (128 : Int32)).toInt = 0))) (hk : 0 < q2.toInt → q2.toInt + cc ≤ n.toInt) (hn6 : n.toInt ≤ 6) (hk0 : 0 ≤ q2.toInt) :
    MetFree l (⟨"com/example/pesquisa/pesquisa/index/ByteSource", "skipNumbers", "(J)V"⟩ : MethodName) (head1 (Jvm.Cond.code (⟨"com/example/pesquisa/pesquisa/index/ByteSource", "skipNumbers", "(J)V"⟩ : MethodName) prog_42_method_6_code 5 none :: ws) ({ frames := 1, cells := 0, slots := 0, locals := 16 } : Room)) (fun a U => a = #[(.ref a1), (.long q2)] ∧ Z.Warmed39 U.vm ∧ U.heap = h0) (fun _ _ _ _ _ => True) (fun _ U o U' => ∃ v L, o = .returned v ∧ Q5 Z a1 q2 b cl n cc h0 n0 v U'.heap L ∧ FrameEnd U o U' L ({ frames := 1, cells := 0, slots := 0, locals := 16 } : Room).cells ({ frames := 1, cells := 0, slots := 0, locals := 16 } : Room).slots) := by
  refine MetFree.of_bodySF (plainFor_of_name pn_5) hisR ?_
  intro p e s m args below meth c s₁ Bd hml0 hP hK
  obtain ⟨rfl, hZ, hh⟩ := hP
  have hx := Bd.exec
  have hby := Bd.bytes
  have hml : c.maxLocals = 5 := hml0
  have hown : s.vm.findClass "com/example/pesquisa/pesquisa/index/ByteSource" = some m.cls := findClass_of_methodNamed Bd.named
  have hnm := (name_of_methodNamed Bd.named Bd.method).1
  have X0 : Stand p l e ({ frames := 1, cells := 0, slots := 0, locals := 16 } : Room) s m #[(.ref a1), (.long q2)] below meth c s₁ [] 0 0 := Stand.of_body Bd
  have e0 : s₁.heap = h0 := by rw [← hh, Bd.state]; rfl
  have N0 := Fr.nil n0
  have pre0 : ∀ t, Steps p.tables e below (s₁.setTop (mkF m 0 #[.val (.ref a1), .val (.long q2), .second, .unset, .unset] [])) t → Steps p.tables e below (s₁.setTop (entryFrame m #[(.ref a1), (.long q2)] 5)) t := fun t k => castTop (ef_5 m a1 q2) k
  have hz64 : (0 : Int64).toInt = 0 := by decide
  obtain ⟨TL, hL, locsL, posL, XL, eL, NL, KL, EL, FbL, FeL, FpL, hpL, stL⟩ := loop5 a1 q2 b cl n cc n0 hx hZ hw hby hml hown g_a1 hne hall hbits hc hk hn6 q2.toInt.toNat (0 : Int64) (0 : Int32) s₁ h0 [] (by decide) (by omega) (by rw [hz64, own_at_0]; decide) X0 e0 N0 Z0 Ar E_a1 F_bytes F_end F_position
  have pre110 : ∀ t, Steps p.tables e below (TL.setTop (mkF m 20 #[.val (.ref a1), .val (.long q2), .second, .val (.long q2), .second] [])) t → Steps p.tables e below (s₁.setTop (entryFrame m #[(.ref a1), (.long q2)] 5)) t := fun t9 k9 => pre0 t9 (by
      show Steps p.tables e below (s₁.setTop (mkF m 0 #[.val (.ref a1), .val (.long q2), .second, .unset, .unset] [])) _
      refine XS.lconst X0.here hx rfl (hb hby d5_0) ?_
      show Steps p.tables e below (s₁.setTop (mkF m 1 #[.val (.ref a1), .val (.long q2), .second, .unset, .unset] [(.long (0 : Int64))])) _
      refine XS.lstoreN X0.here hx rfl (hb hby d5_1) rfl (l' := #[.val (.ref a1), .val (.long q2), .second, .val (.long (0 : Int64)), .second]) rfl ?_
      show Steps p.tables e below (s₁.setTop (mkF m 2 #[.val (.ref a1), .val (.long q2), .second, .val (.long (0 : Int64)), .second] [])) _
      refine stL _ ?_
      exact k9)
  obtain ⟨fs, hr, hrun, hended, hW, hsame⟩ := XL.leave (v := none) (fun _ => rfl)
  refine ⟨_, _, pre110 _ ?_, hrun, hended, _, _, rfl, ?_, ⟨_, rfl⟩, hW, hsame.mono (by decide) (by decide)⟩
  · show Steps p.tables e below (TL.setTop (mkF m 20 #[.val (.ref a1), .val (.long q2), .second, .val (.long q2), .second] [])) _
    exact XL.returnOut hx Bd.returns (hb hby d5_20) hr
  · show Q5 Z a1 q2 b cl n cc h0 n0 _ TL.heap _
    rw [eL]
    exact ⟨_, rfl, NL, KL, EL, FbL, FeL, FpL, hpL⟩
theorem pd_0_0 : parseMethodDescriptor "([BI)V" = some ⟨[(.array .byte), .int], none⟩ := by decide +kernel
theorem pd_0_1 : parseMethodDescriptor "()Z" = some ⟨[], some .boolean⟩ := by decide +kernel
theorem pd_0_2 : parseMethodDescriptor "(II)I" = some ⟨[.int, .int], some .int⟩ := by decide +kernel
theorem pd_0_3 : parseMethodDescriptor "(J)V" = some ⟨[.long], none⟩ := by decide +kernel
theorem pn_0 : plainName "com/example/pesquisa/pesquisa/index/ByteSourceHasMorePinLaw" = true := by first | (simp [plainName, overriddenIn]; done) | decide +kernel
theorem ef_0 (m : MethodId) (p1 : Int32) (p2 : Int32) (p3 : Int32) (p4 : Int32) (q5 : Int64) : entryFrame m #[(.int p1), (.int p2), (.int p3), (.int p4), (.long q5)] maxLocals = mkF m 0 #[.val (.int p1), .val (.int p2), .val (.int p3), .val (.int p4), .val (.long q5), .second, .unset, .unset, .unset, .unset, .unset, .unset, .unset, .unset, .unset, .unset] [] := by first | (simp [entryFrame, mkF, argsToLocals, Value.category, maxLocals]; done) | rfl
def Q0 (Z : State) (p1 : Int32) (p2 : Int32) (p3 : Int32) (p4 : Int32) (q5 : Int64) (h0 : Heap) (n0 : Nat) (v : Option Value) (h : Heap) (L : List Loc) : Prop := v = some (.int 1) ∧ Fr n0 L
set_option maxRecDepth 65536 in
set_option maxHeartbeats 40000000 in
theorem rm0 (l : Launch) (Z : State) (a0 : Array Value) (hw : ∀ d ∈ tables_1, d.before a0 Z = true) (ws : List Jvm.Cond) (p1 : Int32) (p2 : Int32) (p3 : Int32) (p4 : Int32) (q5 : Int64) (h0 : Heap) (n0 : Nat) (Z0 : n0 ≤ h0.size)  :
    MetFree l x (head1 (Jvm.Cond.code x code maxLocals ret :: ws) room_1) (fun a U => a = #[(.int p1), (.int p2), (.int p3), (.int p4), (.long q5)] ∧ Z.Warmed39 U.vm ∧ U.heap = h0) (fun _ _ _ _ _ => True) (fun _ U o U' => ∃ v L, o = .returned v ∧ Q0 Z p1 p2 p3 p4 q5 h0 n0 v U'.heap L ∧ FrameEnd U o U' L room_1.cells room_1.slots) := by
  refine MetFree.of_bodySF (plainFor_of_name pn_0) hisR ?_
  intro p e s m args below meth c s₁ Bd hml0 hP hK
  obtain ⟨rfl, hZ, hh⟩ := hP
  have hx := Bd.exec
  have hby := Bd.bytes
  have hml : c.maxLocals = 16 := hml0
  have hown : s.vm.findClass "com/example/pesquisa/pesquisa/index/ByteSourceHasMorePinLaw" = some m.cls := findClass_of_methodNamed Bd.named
  have hnm := (name_of_methodNamed Bd.named Bd.method).1
  have X0 : Stand p l e room_1 s m #[(.int p1), (.int p2), (.int p3), (.int p4), (.long q5)] below meth c s₁ [] 0 0 := Stand.of_body Bd
  have e0 : s₁.heap = h0 := by rw [← hh, Bd.state]; rfl
  have N0 := Fr.nil n0
  have pre0 : ∀ t, Steps p.tables e below (s₁.setTop (mkF m 0 #[.val (.int p1), .val (.int p2), .val (.int p3), .val (.int p4), .val (.long q5), .second, .unset, .unset, .unset, .unset, .unset, .unset, .unset, .unset, .unset, .unset] [])) t → Steps p.tables e below (s₁.setTop (entryFrame m #[(.int p1), (.int p2), (.int p3), (.int p4), (.long q5)] maxLocals)) t := fun t k => castTop (ef_0 m p1 p2 p3 p4 q5) k
  have hl1 := c_and p1 (2147483647 : Int32) (by decide)
  have hl2 := (c_irem (p1 &&& (2147483647 : Int32)) (7 : Int32) 7 (by decide)).1 hl1.1
  have hl3 : 0 ≤ ((p1 &&& (2147483647 : Int32)) % (7 : Int32)).toInt ∧ ((p1 &&& (2147483647 : Int32)) % (7 : Int32)).toInt ≤ 6 := by omega
  have hr1 := c_and p2 (2147483647 : Int32) (by decide)
  have hr2 := (c_irem (p2 &&& (2147483647 : Int32)) (7 : Int32) 7 (by decide)).1 hr1.1
  have hr3 : 0 ≤ ((p2 &&& (2147483647 : Int32)) % (7 : Int32)).toInt ∧ ((p2 &&& (2147483647 : Int32)) % (7 : Int32)).toInt ≤ 6 := by omega
  have pre101 : ∀ t, Steps p.tables e below (s₁.setTop (mkF m 7 #[.val (.int p1), .val (.int p2), .val (.int p3), .val (.int p4), .val (.long q5), .second, .unset, .unset, .unset, .unset, .unset, .unset, .unset, .unset, .unset, .unset] [(.int ((p1 &&& (2147483647 : Int32)) % (7 : Int32)))])) t → Steps p.tables e below (s₁.setTop (entryFrame m #[(.int p1), (.int p2), (.int p3), (.int p4), (.long q5)] maxLocals)) t := fun t9 k9 => pre0 t9 (by
      show Steps p.tables e below (s₁.setTop (mkF m 0 #[.val (.int p1), .val (.int p2), .val (.int p3), .val (.int p4), .val (.long q5), .second, .unset, .unset, .unset, .unset, .unset, .unset, .unset, .unset, .unset, .unset] [])) _
      refine XS.iloadN X0.here hx rfl (hb hby at_0) rfl ?_
      show Steps p.tables e below (s₁.setTop (mkF m 1 #[.val (.int p1), .val (.int p2), .val (.int p3), .val (.int p4), .val (.long q5), .second, .unset, .unset, .unset, .unset, .unset, .unset, .unset, .unset, .unset, .unset] [(.int p1)])) _
      refine X0.ldcInt hx hown (mvT hZ (hw _ (List.mem_of_getElem? (i := 0) rfl))) (g := (mkF m 1 #[.val (.int p1), .val (.int p2), .val (.int p3), .val (.int p4), .val (.long q5), .second, .unset, .unset, .unset, .unset, .unset, .unset, .unset, .unset, .unset, .unset] [(.int p1)])) rfl (hb hby at_1) _ ?_
      show Steps p.tables e below (s₁.setTop (mkF m 3 #[.val (.int p1), .val (.int p2), .val (.int p3), .val (.int p4), .val (.long q5), .second, .unset, .unset, .unset, .unset, .unset, .unset, .unset, .unset, .unset, .unset] [(.int (2147483647 : Int32)), (.int p1)])) _
      refine XS.iand X0.here hx rfl (hb hby at_3) rfl ?_
      show Steps p.tables e below (s₁.setTop (mkF m 4 #[.val (.int p1), .val (.int p2), .val (.int p3), .val (.int p4), .val (.long q5), .second, .unset, .unset, .unset, .unset, .unset, .unset, .unset, .unset, .unset, .unset] [(.int (p1 &&& (2147483647 : Int32)))])) _
      refine XS.bipush X0.here hx rfl (hb hby at_4) ?_
      show Steps p.tables e below (s₁.setTop (mkF m 6 #[.val (.int p1), .val (.int p2), .val (.int p3), .val (.int p4), .val (.long q5), .second, .unset, .unset, .unset, .unset, .unset, .unset, .unset, .unset, .unset, .unset] [(.int (7 : Int32)), (.int (p1 &&& (2147483647 : Int32)))])) _
      refine iremM X0 hx rfl (hb hby at_6) rfl (by decide) ?_
      exact k9)
  obtain ⟨len, h_len⟩ : ∃ z, ((p1 &&& (2147483647 : Int32)) % (7 : Int32)) = z := ⟨_, rfl⟩
  rw [h_len] at pre101 hl3
  clear hl2
  have hs1 := c_isub len (1 : Int32)
  have hs2 := rng32 (len - (1 : Int32))
  have hs0 : (1 : Int32).toInt = 1 := by decide
  have hs3 : (len - (1 : Int32)).toInt = len.toInt - 1 := by omega
  have pre102 : ∀ t, Steps p.tables e below (s₁.setTop (mkF m 12 #[.val (.int p1), .val (.int p2), .val (.int p3), .val (.int p4), .val (.long q5), .second, .val (.int len), .unset, .unset, .unset, .unset, .unset, .unset, .unset, .unset, .unset] [(.int (p3 &&& (1 : Int32)))])) t → Steps p.tables e below (s₁.setTop (entryFrame m #[(.int p1), (.int p2), (.int p3), (.int p4), (.long q5)] maxLocals)) t := fun t9 k9 => pre101 t9 (by
      show Steps p.tables e below (s₁.setTop (mkF m 7 #[.val (.int p1), .val (.int p2), .val (.int p3), .val (.int p4), .val (.long q5), .second, .unset, .unset, .unset, .unset, .unset, .unset, .unset, .unset, .unset, .unset] [(.int len)])) _
      refine XS.istore X0.here hx rfl (hb hby at_7) rfl (l' := #[.val (.int p1), .val (.int p2), .val (.int p3), .val (.int p4), .val (.long q5), .second, .val (.int len), .unset, .unset, .unset, .unset, .unset, .unset, .unset, .unset, .unset]) rfl ?_
      show Steps p.tables e below (s₁.setTop (mkF m 9 #[.val (.int p1), .val (.int p2), .val (.int p3), .val (.int p4), .val (.long q5), .second, .val (.int len), .unset, .unset, .unset, .unset, .unset, .unset, .unset, .unset, .unset] [])) _
      refine XS.iloadN X0.here hx rfl (hb hby at_9) rfl ?_
      show Steps p.tables e below (s₁.setTop (mkF m 10 #[.val (.int p1), .val (.int p2), .val (.int p3), .val (.int p4), .val (.long q5), .second, .val (.int len), .unset, .unset, .unset, .unset, .unset, .unset, .unset, .unset, .unset] [(.int p3)])) _
      refine XS.iconst X0.here hx rfl (hb hby at_10) ?_
      show Steps p.tables e below (s₁.setTop (mkF m 11 #[.val (.int p1), .val (.int p2), .val (.int p3), .val (.int p4), .val (.long q5), .second, .val (.int len), .unset, .unset, .unset, .unset, .unset, .unset, .unset, .unset, .unset] [(.int (1 : Int32)), (.int p3)])) _
      refine XS.iand X0.here hx rfl (hb hby at_11) rfl ?_
      exact k9)
  by_cases b103 : (p3 &&& (1 : Int32)).toInt = (0 : Int)
  · obtain ⟨T104, h104, k104, X104, e104, E104, A104, st104⟩ := newP X0 hx hZ (hw _ (List.mem_of_getElem? (i := 1) rfl)) e0 (g := (mkF m 30 #[.val (.int p1), .val (.int p2), .val (.int p3), .val (.int p4), .val (.long q5), .second, .val (.int len), .val (.int (0 : Int32)), .unset, .unset, .unset, .unset, .unset, .unset, .unset, .unset] [(.int (6 : Int32))])) rfl (hb hby at_30) rfl (by decide) (cap := 6) (by decide) (by decide) (by decide) (by decide)
    obtain ⟨b104, g104⟩ : ∃ z, z = h0.size := ⟨_, rfl⟩
    rw [← g104] at A104 st104
    have g_b104 : n0 ≤ b104 := Nat.le_trans Z0 (Nat.le_of_eq g104.symm)
    have sz_b104 : h0.size ≤ b104 := Nat.le_trans (Keep.refl h0 []).1 (Nat.le_of_eq g104.symm)
    have V104 : Arv Z h104 b104 k104 .byte (6 : Int32) [(.int (0 : Int32)), (.int (0 : Int32)), (.int (0 : Int32)), (.int (0 : Int32)), (.int (0 : Int32)), (.int (0 : Int32))] (.int (0 : Int32)) := (Arv.new A104 (by decide)).pad (pad_rep [] (.int (0 : Int32)) 6)
    have K104 := (Keep.refl h0 []).ext E104
    have Z104 : n0 ≤ h104.size := Nat.le_trans Z0 E104.1
    obtain ⟨cl105, Ar105, q105, S105, M105, H105, G105⟩ := V104
    have hin105 : ¬ ((0 : Int32) < 0 ∨ cl105.slots.size ≤ ((0 : Int32)).toNatClampNeg) := inb_of S105 ⟨by decide, by decide⟩
    obtain ⟨T106, h106, X106, e106, W106, st106⟩ := stB X104 hx hZ e104 Ar105 (j := (0 : Int32)) hin105 (g := (mkF m 55 #[.val (.int p1), .val (.int p2), .val (.int p3), .val (.int p4), .val (.long q5), .second, .val (.int len), .val (.int (0 : Int32)), .val (.ref b104), .unset, .unset, .unset, .unset, .unset, .unset, .unset] [(.int (((p4 &&& (127 : Int32)) ||| (0 : Int32)).toInt8.toInt32)), (.int (0 : Int32)), (.ref b104)])) rfl rfl (hb hby at_55)
    have V106 : Arv Z h106 b104 k104 .byte (6 : Int32) [(.int (nar .byte (((p4 &&& (127 : Int32)) ||| (0 : Int32)).toInt8.toInt32))), (.int (0 : Int32)), (.int (0 : Int32)), (.int (0 : Int32)), (.int (0 : Int32)), (.int (0 : Int32))] (.int (0 : Int32)) := Arv.set Ar105 q105 S105 M105 H105 G105 (fits_nar_byte _) W106 0 rfl (Nat.le_of_ble_eq_true rfl)
    have N106 := Fr.snoc X106 N0 g_b104
    have K106 := K104.wr W106 (Or.inr sz_b104)
    have Z106 : n0 ≤ h106.size := (Nat.le_trans Z104 (Keep.of_wr W106).1)
    obtain ⟨cl107, Ar107, q107, S107, M107, H107, G107⟩ := V106
    have hin107 : ¬ ((1 : Int32) < 0 ∨ cl107.slots.size ≤ ((1 : Int32)).toNatClampNeg) := inb_of S107 ⟨by decide, by decide⟩
    obtain ⟨T108, h108, X108, e108, W108, st108⟩ := stB X106 hx hZ e106 Ar107 (j := (1 : Int32)) hin107 (g := (mkF m 67 #[.val (.int p1), .val (.int p2), .val (.int p3), .val (.int p4), .val (.long q5), .second, .val (.int len), .val (.int (0 : Int32)), .val (.ref b104), .unset, .unset, .unset, .unset, .unset, .unset, .unset] [(.int (((q5 &&& (127 : Int64)).toInt32).toInt8.toInt32)), (.int (1 : Int32)), (.ref b104)])) rfl rfl (hb hby at_67)
    have V108 : Arv Z h108 b104 k104 .byte (6 : Int32) [(.int (nar .byte (((p4 &&& (127 : Int32)) ||| (0 : Int32)).toInt8.toInt32))), (.int (nar .byte (((q5 &&& (127 : Int64)).toInt32).toInt8.toInt32))), (.int (0 : Int32)), (.int (0 : Int32)), (.int (0 : Int32)), (.int (0 : Int32))] (.int (0 : Int32)) := Arv.set Ar107 q107 S107 M107 H107 G107 (fits_nar_byte _) W108 1 rfl (Nat.le_of_ble_eq_true rfl)
    have N108 := Fr.snoc X108 N106 g_b104
    have K108 := K106.wr W108 (Or.inr sz_b104)
    have Z108 : n0 ≤ h108.size := (Nat.le_trans Z106 (Keep.of_wr W108).1)
    obtain ⟨cl109, Ar109, q109, S109, M109, H109, G109⟩ := V108
    have hin109 : ¬ ((2 : Int32) < 0 ∨ cl109.slots.size ≤ ((2 : Int32)).toNatClampNeg) := inb_of S109 ⟨by decide, by decide⟩
    obtain ⟨T110, h110, X110, e110, W110, st110⟩ := stB X108 hx hZ e108 Ar109 (j := (2 : Int32)) hin109 (g := (mkF m 82 #[.val (.int p1), .val (.int p2), .val (.int p3), .val (.int p4), .val (.long q5), .second, .val (.int len), .val (.int (0 : Int32)), .val (.ref b104), .unset, .unset, .unset, .unset, .unset, .unset, .unset] [(.int (((((q5.toUInt64 >>> ((8 : Int32) &&& 0x3f).toInt64.toUInt64).toInt64) &&& (127 : Int64)).toInt32).toInt8.toInt32)), (.int (2 : Int32)), (.ref b104)])) rfl rfl (hb hby at_82)
    have V110 : Arv Z h110 b104 k104 .byte (6 : Int32) [(.int (nar .byte (((p4 &&& (127 : Int32)) ||| (0 : Int32)).toInt8.toInt32))), (.int (nar .byte (((q5 &&& (127 : Int64)).toInt32).toInt8.toInt32))), (.int (nar .byte (((((q5.toUInt64 >>> ((8 : Int32) &&& 0x3f).toInt64.toUInt64).toInt64) &&& (127 : Int64)).toInt32).toInt8.toInt32))), (.int (0 : Int32)), (.int (0 : Int32)), (.int (0 : Int32))] (.int (0 : Int32)) := Arv.set Ar109 q109 S109 M109 H109 G109 (fits_nar_byte _) W110 2 rfl (Nat.le_of_ble_eq_true rfl)
    have N110 := Fr.snoc X110 N108 g_b104
    have K110 := K108.wr W110 (Or.inr sz_b104)
    have Z110 : n0 ≤ h110.size := (Nat.le_trans Z108 (Keep.of_wr W110).1)
    obtain ⟨cl111, Ar111, q111, S111, M111, H111, G111⟩ := V110
    have hin111 : ¬ ((3 : Int32) < 0 ∨ cl111.slots.size ≤ ((3 : Int32)).toNatClampNeg) := inb_of S111 ⟨by decide, by decide⟩
    obtain ⟨T112, h112, X112, e112, W112, st112⟩ := stB X110 hx hZ e110 Ar111 (j := (3 : Int32)) hin111 (g := (mkF m 97 #[.val (.int p1), .val (.int p2), .val (.int p3), .val (.int p4), .val (.long q5), .second, .val (.int len), .val (.int (0 : Int32)), .val (.ref b104), .unset, .unset, .unset, .unset, .unset, .unset, .unset] [(.int (((((q5.toUInt64 >>> ((16 : Int32) &&& 0x3f).toInt64.toUInt64).toInt64) &&& (127 : Int64)).toInt32).toInt8.toInt32)), (.int (3 : Int32)), (.ref b104)])) rfl rfl (hb hby at_97)
    have V112 : Arv Z h112 b104 k104 .byte (6 : Int32) [(.int (nar .byte (((p4 &&& (127 : Int32)) ||| (0 : Int32)).toInt8.toInt32))), (.int (nar .byte (((q5 &&& (127 : Int64)).toInt32).toInt8.toInt32))), (.int (nar .byte (((((q5.toUInt64 >>> ((8 : Int32) &&& 0x3f).toInt64.toUInt64).toInt64) &&& (127 : Int64)).toInt32).toInt8.toInt32))), (.int (nar .byte (((((q5.toUInt64 >>> ((16 : Int32) &&& 0x3f).toInt64.toUInt64).toInt64) &&& (127 : Int64)).toInt32).toInt8.toInt32))), (.int (0 : Int32)), (.int (0 : Int32))] (.int (0 : Int32)) := Arv.set Ar111 q111 S111 M111 H111 G111 (fits_nar_byte _) W112 3 rfl (Nat.le_of_ble_eq_true rfl)
    have N112 := Fr.snoc X112 N110 g_b104
    have K112 := K110.wr W112 (Or.inr sz_b104)
    have Z112 : n0 ≤ h112.size := (Nat.le_trans Z110 (Keep.of_wr W112).1)
    obtain ⟨cl113, Ar113, q113, S113, M113, H113, G113⟩ := V112
    have hin113 : ¬ ((4 : Int32) < 0 ∨ cl113.slots.size ≤ ((4 : Int32)).toNatClampNeg) := inb_of S113 ⟨by decide, by decide⟩
    obtain ⟨T114, h114, X114, e114, W114, st114⟩ := stB X112 hx hZ e112 Ar113 (j := (4 : Int32)) hin113 (g := (mkF m 112 #[.val (.int p1), .val (.int p2), .val (.int p3), .val (.int p4), .val (.long q5), .second, .val (.int len), .val (.int (0 : Int32)), .val (.ref b104), .unset, .unset, .unset, .unset, .unset, .unset, .unset] [(.int (((((q5.toUInt64 >>> ((24 : Int32) &&& 0x3f).toInt64.toUInt64).toInt64) &&& (127 : Int64)).toInt32).toInt8.toInt32)), (.int (4 : Int32)), (.ref b104)])) rfl rfl (hb hby at_112)
    have V114 : Arv Z h114 b104 k104 .byte (6 : Int32) [(.int (nar .byte (((p4 &&& (127 : Int32)) ||| (0 : Int32)).toInt8.toInt32))), (.int (nar .byte (((q5 &&& (127 : Int64)).toInt32).toInt8.toInt32))), (.int (nar .byte (((((q5.toUInt64 >>> ((8 : Int32) &&& 0x3f).toInt64.toUInt64).toInt64) &&& (127 : Int64)).toInt32).toInt8.toInt32))), (.int (nar .byte (((((q5.toUInt64 >>> ((16 : Int32) &&& 0x3f).toInt64.toUInt64).toInt64) &&& (127 : Int64)).toInt32).toInt8.toInt32))), (.int (nar .byte (((((q5.toUInt64 >>> ((24 : Int32) &&& 0x3f).toInt64.toUInt64).toInt64) &&& (127 : Int64)).toInt32).toInt8.toInt32))), (.int (0 : Int32))] (.int (0 : Int32)) := Arv.set Ar113 q113 S113 M113 H113 G113 (fits_nar_byte _) W114 4 rfl (Nat.le_of_ble_eq_true rfl)
    have N114 := Fr.snoc X114 N112 g_b104
    have K114 := K112.wr W114 (Or.inr sz_b104)
    have Z114 : n0 ≤ h114.size := (Nat.le_trans Z112 (Keep.of_wr W114).1)
    obtain ⟨cl115, Ar115, q115, S115, M115, H115, G115⟩ := V114
    have hin115 : ¬ ((5 : Int32) < 0 ∨ cl115.slots.size ≤ ((5 : Int32)).toNatClampNeg) := inb_of S115 ⟨by decide, by decide⟩
    obtain ⟨T116, h116, X116, e116, W116, st116⟩ := stB X114 hx hZ e114 Ar115 (j := (5 : Int32)) hin115 (g := (mkF m 127 #[.val (.int p1), .val (.int p2), .val (.int p3), .val (.int p4), .val (.long q5), .second, .val (.int len), .val (.int (0 : Int32)), .val (.ref b104), .unset, .unset, .unset, .unset, .unset, .unset, .unset] [(.int (((((q5.toUInt64 >>> ((32 : Int32) &&& 0x3f).toInt64.toUInt64).toInt64) &&& (127 : Int64)).toInt32).toInt8.toInt32)), (.int (5 : Int32)), (.ref b104)])) rfl rfl (hb hby at_127)
    have V116 : Arv Z h116 b104 k104 .byte (6 : Int32) [(.int (nar .byte (((p4 &&& (127 : Int32)) ||| (0 : Int32)).toInt8.toInt32))), (.int (nar .byte (((q5 &&& (127 : Int64)).toInt32).toInt8.toInt32))), (.int (nar .byte (((((q5.toUInt64 >>> ((8 : Int32) &&& 0x3f).toInt64.toUInt64).toInt64) &&& (127 : Int64)).toInt32).toInt8.toInt32))), (.int (nar .byte (((((q5.toUInt64 >>> ((16 : Int32) &&& 0x3f).toInt64.toUInt64).toInt64) &&& (127 : Int64)).toInt32).toInt8.toInt32))), (.int (nar .byte (((((q5.toUInt64 >>> ((24 : Int32) &&& 0x3f).toInt64.toUInt64).toInt64) &&& (127 : Int64)).toInt32).toInt8.toInt32))), (.int (nar .byte (((((q5.toUInt64 >>> ((32 : Int32) &&& 0x3f).toInt64.toUInt64).toInt64) &&& (127 : Int64)).toInt32).toInt8.toInt32)))] (.int (0 : Int32)) := Arv.set Ar115 q115 S115 M115 H115 G115 (fits_nar_byte _) W116 5 rfl (Nat.le_of_ble_eq_true rfl)
    have N116 := Fr.snoc X116 N114 g_b104
    have K116 := K114.wr W116 (Or.inr sz_b104)
    have Z116 : n0 ≤ h116.size := (Nat.le_trans Z114 (Keep.of_wr W116).1)
    obtain ⟨cl, Ar, qA, SA, MA, HA, GA⟩ := V116
    obtain ⟨hall, hbits, hat0⟩ := own_all SA HA (own_bitL _) (own_bitL _) (own_bitL _) (own_bitL _) (own_bitL _)
    have hbit0 : ((atv cl 0) &&& (128 : Int32)).toInt = 0 := by rw [hat0]; exact own_bit0 p4
    obtain ⟨T117, h117, X117, e117, E117, A117, D117, -, st117⟩ := newO X116 hx hZ hown (hw _ (List.mem_of_getElem? (i := 3) rfl)) (hw _ (List.mem_of_getElem? (i := 4) rfl)) (hw _ (List.mem_of_getElem? (i := 5) rfl)) e116 (g := (mkF m 128 #[.val (.int p1), .val (.int p2), .val (.int p3), .val (.int p4), .val (.long q5), .second, .val (.int len), .val (.int (0 : Int32)), .val (.ref b104), .unset, .unset, .unset, .unset, .unset, .unset, .unset] [])) rfl (hb hby at_128) (by decide) (by decide)
    obtain ⟨b117, g117⟩ : ∃ z, z = h116.size := ⟨_, rfl⟩
    rw [← g117] at A117 D117 st117
    have g_b117 : n0 ≤ b117 := Nat.le_trans Z116 (Nat.le_of_eq g117.symm)
    have sz_b117 : h0.size ≤ b117 := Nat.le_trans K116.1 (Nat.le_of_eq g117.symm)
    have ne118 : b104 ≠ b117 := Nat.ne_of_lt (Nat.lt_of_lt_of_le Ar.lt (Nat.le_of_eq g117.symm))
    have Ax119 := Ar.ext E117
    have F117_bytes : Fld Z h117 b117 "com/example/pesquisa/pesquisa/index/ByteSource" "bytes" "[B" .null := D117 (Or.inr (hw _ (List.mem_of_getElem? (i := 13) rfl))) (ty := (.array .byte)) (by decide)
    have F117_end : Fld Z h117 b117 "com/example/pesquisa/pesquisa/index/ByteSource" "end" "I" (.int (0 : Int32)) := D117 (Or.inr (hw _ (List.mem_of_getElem? (i := 15) rfl))) (ty := .int) (by decide)
    have F117_position : Fld Z h117 b117 "com/example/pesquisa/pesquisa/index/ByteSource" "position" "I" (.int (0 : Int32)) := D117 (Or.inl (hw _ (List.mem_of_getElem? (i := 22) rfl))) (ty := .int) (by decide)
    have K117 := K116.ext E117
    have Z117 : n0 ≤ h117.size := Nat.le_trans Z116 E117.1
    obtain ⟨_, _, ⟨T120, L120, k120, n120⟩, -, X120, ⟨Lc120, hQ120, l120, y120, z120⟩, st120⟩ := X117.specialBack hx (y := (⟨"com/example/pesquisa/pesquisa/index/ByteSource", "<init>", "([BI)V"⟩ : MethodName)) rfl hown (mvT hZ (hw _ (List.mem_of_getElem? (i := 6) rfl))) (mvT hZ (hw _ (List.mem_of_getElem? (i := 7) rfl))) (mvT hZ (hw _ (List.mem_of_getElem? (i := 8) rfl))) (by decide) (backOf (W := 1) (rm1 l Z a0 hw [] b117 b104 len h117 n0 Z117 A117 F117_bytes F117_end F117_position g_b117) hZ (hw _ (List.mem_of_getElem? (i := 8) rfl)) (hw _ (List.mem_of_getElem? (i := 5) rfl)) (by decide) (by decide)) (g := (mkF m 136 #[.val (.int p1), .val (.int p2), .val (.int p3), .val (.int p4), .val (.long q5), .second, .val (.int len), .val (.int (0 : Int32)), .val (.ref b104), .unset, .unset, .unset, .unset, .unset, .unset, .unset] [(.int len), (.ref b104), (.ref b117), (.ref b117)])) rfl (by rw [hml]; rfl) (Steps.refl _) (a := b117) (argsL := [(.ref b104), (.int len)]) (rest := [(.ref b117)]) (lenOf pd_0_0 rfl) rfl (by show 2 * 0 + _ ≤ _; exact Nat.le_of_eq rfl) (hb hby at_136) (fun _ _ => ⟨rfl, e117, (by decide : 2 + 0 ≤ _), (by decide : 9 + 0 ≤ _)⟩)
    dsimp only [Pt.U, Pt.locs, Pt.cells, Pt.slots] at X120 l120 y120 z120 st120 hQ120
    subst l120 y120 z120
    obtain ⟨hv120, N120q, K120, E120x, F120_bytes, F120_end, F120_position⟩ := hQ120
    subst hv120
    have N120 := Fr.app N116 N120q
    have Ak121 := own_arr_keep Ax119 K120 (ninS ne118 nin0)
    have Ek122 := A117.keep K120
    have KK120 := K117.trans K120 (allS (Or.inr sz_b117) all0)
    have Z120 : n0 ≤ T120.heap.size := Nat.le_trans Z117 K120.1
    obtain ⟨cq123, kq123, q123a, q123b, q123c⟩ := isOf hZ rfl E120x
    obtain ⟨_, _, ⟨T123, L123, k123, n123⟩, -, X123, ⟨Lc123, hQ123, l123, y123, z123⟩, st123⟩ := X120.virtualBack hx (y := (⟨"com/example/pesquisa/pesquisa/index/ByteSource", "hasMore", "()Z"⟩ : MethodName)) (z := (⟨"com/example/pesquisa/pesquisa/index/ByteSource", "hasMore", "()Z"⟩ : MethodName)) hown (mvT hZ (hw _ (List.mem_of_getElem? (i := 16) rfl))) (mvT hZ (hw _ (List.mem_of_getElem? (i := 17) rfl))) (notFace_of_selects (args := #[]) (mvT hZ (hw _ (List.mem_of_getElem? (i := 19) rfl)))) (mvT hZ (hw _ (List.mem_of_getElem? (i := 19) rfl))) (mvT hZ (hw _ (List.mem_of_getElem? (i := 18) rfl))) (by decide) (backOf (W := 0) (rm3 l Z a0 hw [] b117 len (0 : Int32) T120.heap n0 Z120 F120_end F120_position) hZ (hw _ (List.mem_of_getElem? (i := 20) rfl)) (hw _ (List.mem_of_getElem? (i := 5) rfl)) (by decide) (by decide)) q123a q123c (g := (mkF m 143 #[.val (.int p1), .val (.int p2), .val (.int p3), .val (.int p4), .val (.long q5), .second, .val (.int len), .val (.int (0 : Int32)), .val (.ref b104), .val (.ref b117), .unset, .unset, .unset, .unset, .unset, .unset] [(.ref b117)])) rfl (by rw [hml]; rfl) (Steps.refl _) (argsL := []) (rest := []) (lenOf pd_0_1 rfl) rfl (by show 2 * 0 + _ ≤ _; exact Nat.le_of_eq rfl) (hb hby at_143) (fun _ _ => ⟨rfl, rfl, (by decide : 2 + 0 ≤ _), (by decide : 9 + 0 ≤ _)⟩)
    dsimp only [Pt.U, Pt.locs, Pt.cells, Pt.slots] at X123 l123 y123 z123 st123 hQ123
    subst l123 y123 z123
    obtain ⟨hv123, N123q, e123⟩ := hQ123
    subst hv123
    have N123 := Fr.app N120 N123q
    have pre124 : ∀ t, Steps p.tables e below (T123.setTop (mkF m 152 #[.val (.int p1), .val (.int p2), .val (.int p3), .val (.int p4), .val (.long q5), .second, .val (.int len), .val (.int (0 : Int32)), .val (.ref b104), .val (.ref b117), .val (.int (own_v3 (0 : Int32) len)), .unset, .unset, .unset, .unset, .unset] [(.int len), (.int (own_v3 (0 : Int32) len))])) t → Steps p.tables e below (s₁.setTop (entryFrame m #[(.int p1), (.int p2), (.int p3), (.int p4), (.long q5)] maxLocals)) t := fun t9 k9 => pre102 t9 (by
        show Steps p.tables e below (s₁.setTop (mkF m 12 #[.val (.int p1), .val (.int p2), .val (.int p3), .val (.int p4), .val (.long q5), .second, .val (.int len), .unset, .unset, .unset, .unset, .unset, .unset, .unset, .unset, .unset] [(.int (p3 &&& (1 : Int32)))])) _
        refine XS.ifYes X0.here hx rfl (pc0 := 12) (pc' := 25) rfl (hb hby at_12) rfl ((if0 _ _).trans (own_eq_t (a := (p3 &&& (1 : Int32)).toInt) (b := (0 : Int)) rfl (by decide) b103)) (by decide) (by decide) ?_
        show Steps p.tables e below (s₁.setTop (mkF m 25 #[.val (.int p1), .val (.int p2), .val (.int p3), .val (.int p4), .val (.long q5), .second, .val (.int len), .unset, .unset, .unset, .unset, .unset, .unset, .unset, .unset, .unset] [])) _
        refine XS.iconst X0.here hx rfl (hb hby at_25) ?_
        show Steps p.tables e below (s₁.setTop (mkF m 26 #[.val (.int p1), .val (.int p2), .val (.int p3), .val (.int p4), .val (.long q5), .second, .val (.int len), .unset, .unset, .unset, .unset, .unset, .unset, .unset, .unset, .unset] [(.int (0 : Int32))])) _
        refine XS.istore X0.here hx rfl (hb hby at_26) rfl (l' := #[.val (.int p1), .val (.int p2), .val (.int p3), .val (.int p4), .val (.long q5), .second, .val (.int len), .val (.int (0 : Int32)), .unset, .unset, .unset, .unset, .unset, .unset, .unset, .unset]) rfl ?_
        show Steps p.tables e below (s₁.setTop (mkF m 28 #[.val (.int p1), .val (.int p2), .val (.int p3), .val (.int p4), .val (.long q5), .second, .val (.int len), .val (.int (0 : Int32)), .unset, .unset, .unset, .unset, .unset, .unset, .unset, .unset] [])) _
        refine XS.bipush X0.here hx rfl (hb hby at_28) ?_
        show Steps p.tables e below (s₁.setTop (mkF m 30 #[.val (.int p1), .val (.int p2), .val (.int p3), .val (.int p4), .val (.long q5), .second, .val (.int len), .val (.int (0 : Int32)), .unset, .unset, .unset, .unset, .unset, .unset, .unset, .unset] [(.int (6 : Int32))])) _
        refine st104 _ ?_
        show Steps p.tables e below (T104.setTop (mkF m 32 #[.val (.int p1), .val (.int p2), .val (.int p3), .val (.int p4), .val (.long q5), .second, .val (.int len), .val (.int (0 : Int32)), .unset, .unset, .unset, .unset, .unset, .unset, .unset, .unset] [(.ref b104)])) _
        refine XS.astore X104.here hx rfl (hb hby at_32) rfl rfl (l' := #[.val (.int p1), .val (.int p2), .val (.int p3), .val (.int p4), .val (.long q5), .second, .val (.int len), .val (.int (0 : Int32)), .val (.ref b104), .unset, .unset, .unset, .unset, .unset, .unset, .unset]) rfl ?_
        show Steps p.tables e below (T104.setTop (mkF m 34 #[.val (.int p1), .val (.int p2), .val (.int p3), .val (.int p4), .val (.long q5), .second, .val (.int len), .val (.int (0 : Int32)), .val (.ref b104), .unset, .unset, .unset, .unset, .unset, .unset, .unset] [])) _
        refine XS.aload X104.here hx rfl (hb hby at_34) rfl rfl ?_
        show Steps p.tables e below (T104.setTop (mkF m 36 #[.val (.int p1), .val (.int p2), .val (.int p3), .val (.int p4), .val (.long q5), .second, .val (.int len), .val (.int (0 : Int32)), .val (.ref b104), .unset, .unset, .unset, .unset, .unset, .unset, .unset] [(.ref b104)])) _
        refine XS.iconst X104.here hx rfl (hb hby at_36) ?_
        show Steps p.tables e below (T104.setTop (mkF m 37 #[.val (.int p1), .val (.int p2), .val (.int p3), .val (.int p4), .val (.long q5), .second, .val (.int len), .val (.int (0 : Int32)), .val (.ref b104), .unset, .unset, .unset, .unset, .unset, .unset, .unset] [(.int (0 : Int32)), (.ref b104)])) _
        refine XS.iloadN X104.here hx rfl (hb hby at_37) rfl ?_
        show Steps p.tables e below (T104.setTop (mkF m 38 #[.val (.int p1), .val (.int p2), .val (.int p3), .val (.int p4), .val (.long q5), .second, .val (.int len), .val (.int (0 : Int32)), .val (.ref b104), .unset, .unset, .unset, .unset, .unset, .unset, .unset] [(.int p4), (.int (0 : Int32)), (.ref b104)])) _
        refine XS.bipush X104.here hx rfl (hb hby at_38) ?_
        show Steps p.tables e below (T104.setTop (mkF m 40 #[.val (.int p1), .val (.int p2), .val (.int p3), .val (.int p4), .val (.long q5), .second, .val (.int len), .val (.int (0 : Int32)), .val (.ref b104), .unset, .unset, .unset, .unset, .unset, .unset, .unset] [(.int (127 : Int32)), (.int p4), (.int (0 : Int32)), (.ref b104)])) _
        refine XS.iand X104.here hx rfl (hb hby at_40) rfl ?_
        show Steps p.tables e below (T104.setTop (mkF m 41 #[.val (.int p1), .val (.int p2), .val (.int p3), .val (.int p4), .val (.long q5), .second, .val (.int len), .val (.int (0 : Int32)), .val (.ref b104), .unset, .unset, .unset, .unset, .unset, .unset, .unset] [(.int (p4 &&& (127 : Int32))), (.int (0 : Int32)), (.ref b104)])) _
        refine XS.iload X104.here hx rfl (hb hby at_41) rfl ?_
        show Steps p.tables e below (T104.setTop (mkF m 43 #[.val (.int p1), .val (.int p2), .val (.int p3), .val (.int p4), .val (.long q5), .second, .val (.int len), .val (.int (0 : Int32)), .val (.ref b104), .unset, .unset, .unset, .unset, .unset, .unset, .unset] [(.int (0 : Int32)), (.int (p4 &&& (127 : Int32))), (.int (0 : Int32)), (.ref b104)])) _
        refine XS.ifYes X104.here hx rfl (pc0 := 43) (pc' := 52) rfl (hb hby at_43) rfl ((if0 _ _).trans (own_eq_t (a := (0 : Int)) (b := (0 : Int)) (by decide) (by decide) (by decide))) (by decide) (by decide) ?_
        show Steps p.tables e below (T104.setTop (mkF m 52 #[.val (.int p1), .val (.int p2), .val (.int p3), .val (.int p4), .val (.long q5), .second, .val (.int len), .val (.int (0 : Int32)), .val (.ref b104), .unset, .unset, .unset, .unset, .unset, .unset, .unset] [(.int (p4 &&& (127 : Int32))), (.int (0 : Int32)), (.ref b104)])) _
        refine XS.iconst X104.here hx rfl (hb hby at_52) ?_
        show Steps p.tables e below (T104.setTop (mkF m 53 #[.val (.int p1), .val (.int p2), .val (.int p3), .val (.int p4), .val (.long q5), .second, .val (.int len), .val (.int (0 : Int32)), .val (.ref b104), .unset, .unset, .unset, .unset, .unset, .unset, .unset] [(.int (0 : Int32)), (.int (p4 &&& (127 : Int32))), (.int (0 : Int32)), (.ref b104)])) _
        refine XS.ior X104.here hx rfl (hb hby at_53) rfl ?_
        show Steps p.tables e below (T104.setTop (mkF m 54 #[.val (.int p1), .val (.int p2), .val (.int p3), .val (.int p4), .val (.long q5), .second, .val (.int len), .val (.int (0 : Int32)), .val (.ref b104), .unset, .unset, .unset, .unset, .unset, .unset, .unset] [(.int ((p4 &&& (127 : Int32)) ||| (0 : Int32))), (.int (0 : Int32)), (.ref b104)])) _
        refine XS.i2b X104.here hx rfl (hb hby at_54) rfl ?_
        show Steps p.tables e below (T104.setTop (mkF m 55 #[.val (.int p1), .val (.int p2), .val (.int p3), .val (.int p4), .val (.long q5), .second, .val (.int len), .val (.int (0 : Int32)), .val (.ref b104), .unset, .unset, .unset, .unset, .unset, .unset, .unset] [(.int (((p4 &&& (127 : Int32)) ||| (0 : Int32)).toInt8.toInt32)), (.int (0 : Int32)), (.ref b104)])) _
        refine st106 _ ?_
        show Steps p.tables e below (T106.setTop (mkF m 56 #[.val (.int p1), .val (.int p2), .val (.int p3), .val (.int p4), .val (.long q5), .second, .val (.int len), .val (.int (0 : Int32)), .val (.ref b104), .unset, .unset, .unset, .unset, .unset, .unset, .unset] [])) _
        refine XS.aload X106.here hx rfl (hb hby at_56) rfl rfl ?_
        show Steps p.tables e below (T106.setTop (mkF m 58 #[.val (.int p1), .val (.int p2), .val (.int p3), .val (.int p4), .val (.long q5), .second, .val (.int len), .val (.int (0 : Int32)), .val (.ref b104), .unset, .unset, .unset, .unset, .unset, .unset, .unset] [(.ref b104)])) _
        refine XS.iconst X106.here hx rfl (hb hby at_58) ?_
        show Steps p.tables e below (T106.setTop (mkF m 59 #[.val (.int p1), .val (.int p2), .val (.int p3), .val (.int p4), .val (.long q5), .second, .val (.int len), .val (.int (0 : Int32)), .val (.ref b104), .unset, .unset, .unset, .unset, .unset, .unset, .unset] [(.int (1 : Int32)), (.ref b104)])) _
        refine XS.lload X106.here hx rfl (hb hby at_59) rfl ?_
        show Steps p.tables e below (T106.setTop (mkF m 61 #[.val (.int p1), .val (.int p2), .val (.int p3), .val (.int p4), .val (.long q5), .second, .val (.int len), .val (.int (0 : Int32)), .val (.ref b104), .unset, .unset, .unset, .unset, .unset, .unset, .unset] [(.long q5), (.int (1 : Int32)), (.ref b104)])) _
        refine X106.ldc2Long hx hown (mvT hZ (hw _ (List.mem_of_getElem? (i := 2) rfl))) (g := (mkF m 61 #[.val (.int p1), .val (.int p2), .val (.int p3), .val (.int p4), .val (.long q5), .second, .val (.int len), .val (.int (0 : Int32)), .val (.ref b104), .unset, .unset, .unset, .unset, .unset, .unset, .unset] [(.long q5), (.int (1 : Int32)), (.ref b104)])) rfl (hb hby at_61) _ ?_
        show Steps p.tables e below (T106.setTop (mkF m 64 #[.val (.int p1), .val (.int p2), .val (.int p3), .val (.int p4), .val (.long q5), .second, .val (.int len), .val (.int (0 : Int32)), .val (.ref b104), .unset, .unset, .unset, .unset, .unset, .unset, .unset] [(.long (127 : Int64)), (.long q5), (.int (1 : Int32)), (.ref b104)])) _
        refine XS.land X106.here hx rfl (hb hby at_64) rfl ?_
        show Steps p.tables e below (T106.setTop (mkF m 65 #[.val (.int p1), .val (.int p2), .val (.int p3), .val (.int p4), .val (.long q5), .second, .val (.int len), .val (.int (0 : Int32)), .val (.ref b104), .unset, .unset, .unset, .unset, .unset, .unset, .unset] [(.long (q5 &&& (127 : Int64))), (.int (1 : Int32)), (.ref b104)])) _
        refine XS.l2i X106.here hx rfl (hb hby at_65) rfl ?_
        show Steps p.tables e below (T106.setTop (mkF m 66 #[.val (.int p1), .val (.int p2), .val (.int p3), .val (.int p4), .val (.long q5), .second, .val (.int len), .val (.int (0 : Int32)), .val (.ref b104), .unset, .unset, .unset, .unset, .unset, .unset, .unset] [(.int ((q5 &&& (127 : Int64)).toInt32)), (.int (1 : Int32)), (.ref b104)])) _
        refine XS.i2b X106.here hx rfl (hb hby at_66) rfl ?_
        show Steps p.tables e below (T106.setTop (mkF m 67 #[.val (.int p1), .val (.int p2), .val (.int p3), .val (.int p4), .val (.long q5), .second, .val (.int len), .val (.int (0 : Int32)), .val (.ref b104), .unset, .unset, .unset, .unset, .unset, .unset, .unset] [(.int (((q5 &&& (127 : Int64)).toInt32).toInt8.toInt32)), (.int (1 : Int32)), (.ref b104)])) _
        refine st108 _ ?_
        show Steps p.tables e below (T108.setTop (mkF m 68 #[.val (.int p1), .val (.int p2), .val (.int p3), .val (.int p4), .val (.long q5), .second, .val (.int len), .val (.int (0 : Int32)), .val (.ref b104), .unset, .unset, .unset, .unset, .unset, .unset, .unset] [])) _
        refine XS.aload X108.here hx rfl (hb hby at_68) rfl rfl ?_
        show Steps p.tables e below (T108.setTop (mkF m 70 #[.val (.int p1), .val (.int p2), .val (.int p3), .val (.int p4), .val (.long q5), .second, .val (.int len), .val (.int (0 : Int32)), .val (.ref b104), .unset, .unset, .unset, .unset, .unset, .unset, .unset] [(.ref b104)])) _
        refine XS.iconst X108.here hx rfl (hb hby at_70) ?_
        show Steps p.tables e below (T108.setTop (mkF m 71 #[.val (.int p1), .val (.int p2), .val (.int p3), .val (.int p4), .val (.long q5), .second, .val (.int len), .val (.int (0 : Int32)), .val (.ref b104), .unset, .unset, .unset, .unset, .unset, .unset, .unset] [(.int (2 : Int32)), (.ref b104)])) _
        refine XS.lload X108.here hx rfl (hb hby at_71) rfl ?_
        show Steps p.tables e below (T108.setTop (mkF m 73 #[.val (.int p1), .val (.int p2), .val (.int p3), .val (.int p4), .val (.long q5), .second, .val (.int len), .val (.int (0 : Int32)), .val (.ref b104), .unset, .unset, .unset, .unset, .unset, .unset, .unset] [(.long q5), (.int (2 : Int32)), (.ref b104)])) _
        refine XS.bipush X108.here hx rfl (hb hby at_73) ?_
        show Steps p.tables e below (T108.setTop (mkF m 75 #[.val (.int p1), .val (.int p2), .val (.int p3), .val (.int p4), .val (.long q5), .second, .val (.int len), .val (.int (0 : Int32)), .val (.ref b104), .unset, .unset, .unset, .unset, .unset, .unset, .unset] [(.int (8 : Int32)), (.long q5), (.int (2 : Int32)), (.ref b104)])) _
        refine XS.lushr X108.here hx rfl (hb hby at_75) rfl ?_
        show Steps p.tables e below (T108.setTop (mkF m 76 #[.val (.int p1), .val (.int p2), .val (.int p3), .val (.int p4), .val (.long q5), .second, .val (.int len), .val (.int (0 : Int32)), .val (.ref b104), .unset, .unset, .unset, .unset, .unset, .unset, .unset] [(.long ((q5.toUInt64 >>> ((8 : Int32) &&& 0x3f).toInt64.toUInt64).toInt64)), (.int (2 : Int32)), (.ref b104)])) _
        refine X108.ldc2Long hx hown (mvT hZ (hw _ (List.mem_of_getElem? (i := 2) rfl))) (g := (mkF m 76 #[.val (.int p1), .val (.int p2), .val (.int p3), .val (.int p4), .val (.long q5), .second, .val (.int len), .val (.int (0 : Int32)), .val (.ref b104), .unset, .unset, .unset, .unset, .unset, .unset, .unset] [(.long ((q5.toUInt64 >>> ((8 : Int32) &&& 0x3f).toInt64.toUInt64).toInt64)), (.int (2 : Int32)), (.ref b104)])) rfl (hb hby at_76) _ ?_
        show Steps p.tables e below (T108.setTop (mkF m 79 #[.val (.int p1), .val (.int p2), .val (.int p3), .val (.int p4), .val (.long q5), .second, .val (.int len), .val (.int (0 : Int32)), .val (.ref b104), .unset, .unset, .unset, .unset, .unset, .unset, .unset] [(.long (127 : Int64)), (.long ((q5.toUInt64 >>> ((8 : Int32) &&& 0x3f).toInt64.toUInt64).toInt64)), (.int (2 : Int32)), (.ref b104)])) _
        refine XS.land X108.here hx rfl (hb hby at_79) rfl ?_
        show Steps p.tables e below (T108.setTop (mkF m 80 #[.val (.int p1), .val (.int p2), .val (.int p3), .val (.int p4), .val (.long q5), .second, .val (.int len), .val (.int (0 : Int32)), .val (.ref b104), .unset, .unset, .unset, .unset, .unset, .unset, .unset] [(.long (((q5.toUInt64 >>> ((8 : Int32) &&& 0x3f).toInt64.toUInt64).toInt64) &&& (127 : Int64))), (.int (2 : Int32)), (.ref b104)])) _
        refine XS.l2i X108.here hx rfl (hb hby at_80) rfl ?_
        show Steps p.tables e below (T108.setTop (mkF m 81 #[.val (.int p1), .val (.int p2), .val (.int p3), .val (.int p4), .val (.long q5), .second, .val (.int len), .val (.int (0 : Int32)), .val (.ref b104), .unset, .unset, .unset, .unset, .unset, .unset, .unset] [(.int ((((q5.toUInt64 >>> ((8 : Int32) &&& 0x3f).toInt64.toUInt64).toInt64) &&& (127 : Int64)).toInt32)), (.int (2 : Int32)), (.ref b104)])) _
        refine XS.i2b X108.here hx rfl (hb hby at_81) rfl ?_
        show Steps p.tables e below (T108.setTop (mkF m 82 #[.val (.int p1), .val (.int p2), .val (.int p3), .val (.int p4), .val (.long q5), .second, .val (.int len), .val (.int (0 : Int32)), .val (.ref b104), .unset, .unset, .unset, .unset, .unset, .unset, .unset] [(.int (((((q5.toUInt64 >>> ((8 : Int32) &&& 0x3f).toInt64.toUInt64).toInt64) &&& (127 : Int64)).toInt32).toInt8.toInt32)), (.int (2 : Int32)), (.ref b104)])) _
        refine st110 _ ?_
        show Steps p.tables e below (T110.setTop (mkF m 83 #[.val (.int p1), .val (.int p2), .val (.int p3), .val (.int p4), .val (.long q5), .second, .val (.int len), .val (.int (0 : Int32)), .val (.ref b104), .unset, .unset, .unset, .unset, .unset, .unset, .unset] [])) _
        refine XS.aload X110.here hx rfl (hb hby at_83) rfl rfl ?_
        show Steps p.tables e below (T110.setTop (mkF m 85 #[.val (.int p1), .val (.int p2), .val (.int p3), .val (.int p4), .val (.long q5), .second, .val (.int len), .val (.int (0 : Int32)), .val (.ref b104), .unset, .unset, .unset, .unset, .unset, .unset, .unset] [(.ref b104)])) _
        refine XS.iconst X110.here hx rfl (hb hby at_85) ?_
        show Steps p.tables e below (T110.setTop (mkF m 86 #[.val (.int p1), .val (.int p2), .val (.int p3), .val (.int p4), .val (.long q5), .second, .val (.int len), .val (.int (0 : Int32)), .val (.ref b104), .unset, .unset, .unset, .unset, .unset, .unset, .unset] [(.int (3 : Int32)), (.ref b104)])) _
        refine XS.lload X110.here hx rfl (hb hby at_86) rfl ?_
        show Steps p.tables e below (T110.setTop (mkF m 88 #[.val (.int p1), .val (.int p2), .val (.int p3), .val (.int p4), .val (.long q5), .second, .val (.int len), .val (.int (0 : Int32)), .val (.ref b104), .unset, .unset, .unset, .unset, .unset, .unset, .unset] [(.long q5), (.int (3 : Int32)), (.ref b104)])) _
        refine XS.bipush X110.here hx rfl (hb hby at_88) ?_
        show Steps p.tables e below (T110.setTop (mkF m 90 #[.val (.int p1), .val (.int p2), .val (.int p3), .val (.int p4), .val (.long q5), .second, .val (.int len), .val (.int (0 : Int32)), .val (.ref b104), .unset, .unset, .unset, .unset, .unset, .unset, .unset] [(.int (16 : Int32)), (.long q5), (.int (3 : Int32)), (.ref b104)])) _
        refine XS.lushr X110.here hx rfl (hb hby at_90) rfl ?_
        show Steps p.tables e below (T110.setTop (mkF m 91 #[.val (.int p1), .val (.int p2), .val (.int p3), .val (.int p4), .val (.long q5), .second, .val (.int len), .val (.int (0 : Int32)), .val (.ref b104), .unset, .unset, .unset, .unset, .unset, .unset, .unset] [(.long ((q5.toUInt64 >>> ((16 : Int32) &&& 0x3f).toInt64.toUInt64).toInt64)), (.int (3 : Int32)), (.ref b104)])) _
        refine X110.ldc2Long hx hown (mvT hZ (hw _ (List.mem_of_getElem? (i := 2) rfl))) (g := (mkF m 91 #[.val (.int p1), .val (.int p2), .val (.int p3), .val (.int p4), .val (.long q5), .second, .val (.int len), .val (.int (0 : Int32)), .val (.ref b104), .unset, .unset, .unset, .unset, .unset, .unset, .unset] [(.long ((q5.toUInt64 >>> ((16 : Int32) &&& 0x3f).toInt64.toUInt64).toInt64)), (.int (3 : Int32)), (.ref b104)])) rfl (hb hby at_91) _ ?_
        show Steps p.tables e below (T110.setTop (mkF m 94 #[.val (.int p1), .val (.int p2), .val (.int p3), .val (.int p4), .val (.long q5), .second, .val (.int len), .val (.int (0 : Int32)), .val (.ref b104), .unset, .unset, .unset, .unset, .unset, .unset, .unset] [(.long (127 : Int64)), (.long ((q5.toUInt64 >>> ((16 : Int32) &&& 0x3f).toInt64.toUInt64).toInt64)), (.int (3 : Int32)), (.ref b104)])) _
        refine XS.land X110.here hx rfl (hb hby at_94) rfl ?_
        show Steps p.tables e below (T110.setTop (mkF m 95 #[.val (.int p1), .val (.int p2), .val (.int p3), .val (.int p4), .val (.long q5), .second, .val (.int len), .val (.int (0 : Int32)), .val (.ref b104), .unset, .unset, .unset, .unset, .unset, .unset, .unset] [(.long (((q5.toUInt64 >>> ((16 : Int32) &&& 0x3f).toInt64.toUInt64).toInt64) &&& (127 : Int64))), (.int (3 : Int32)), (.ref b104)])) _
        refine XS.l2i X110.here hx rfl (hb hby at_95) rfl ?_
        show Steps p.tables e below (T110.setTop (mkF m 96 #[.val (.int p1), .val (.int p2), .val (.int p3), .val (.int p4), .val (.long q5), .second, .val (.int len), .val (.int (0 : Int32)), .val (.ref b104), .unset, .unset, .unset, .unset, .unset, .unset, .unset] [(.int ((((q5.toUInt64 >>> ((16 : Int32) &&& 0x3f).toInt64.toUInt64).toInt64) &&& (127 : Int64)).toInt32)), (.int (3 : Int32)), (.ref b104)])) _
        refine XS.i2b X110.here hx rfl (hb hby at_96) rfl ?_
        show Steps p.tables e below (T110.setTop (mkF m 97 #[.val (.int p1), .val (.int p2), .val (.int p3), .val (.int p4), .val (.long q5), .second, .val (.int len), .val (.int (0 : Int32)), .val (.ref b104), .unset, .unset, .unset, .unset, .unset, .unset, .unset] [(.int (((((q5.toUInt64 >>> ((16 : Int32) &&& 0x3f).toInt64.toUInt64).toInt64) &&& (127 : Int64)).toInt32).toInt8.toInt32)), (.int (3 : Int32)), (.ref b104)])) _
        refine st112 _ ?_
        show Steps p.tables e below (T112.setTop (mkF m 98 #[.val (.int p1), .val (.int p2), .val (.int p3), .val (.int p4), .val (.long q5), .second, .val (.int len), .val (.int (0 : Int32)), .val (.ref b104), .unset, .unset, .unset, .unset, .unset, .unset, .unset] [])) _
        refine XS.aload X112.here hx rfl (hb hby at_98) rfl rfl ?_
        show Steps p.tables e below (T112.setTop (mkF m 100 #[.val (.int p1), .val (.int p2), .val (.int p3), .val (.int p4), .val (.long q5), .second, .val (.int len), .val (.int (0 : Int32)), .val (.ref b104), .unset, .unset, .unset, .unset, .unset, .unset, .unset] [(.ref b104)])) _
        refine XS.iconst X112.here hx rfl (hb hby at_100) ?_
        show Steps p.tables e below (T112.setTop (mkF m 101 #[.val (.int p1), .val (.int p2), .val (.int p3), .val (.int p4), .val (.long q5), .second, .val (.int len), .val (.int (0 : Int32)), .val (.ref b104), .unset, .unset, .unset, .unset, .unset, .unset, .unset] [(.int (4 : Int32)), (.ref b104)])) _
        refine XS.lload X112.here hx rfl (hb hby at_101) rfl ?_
        show Steps p.tables e below (T112.setTop (mkF m 103 #[.val (.int p1), .val (.int p2), .val (.int p3), .val (.int p4), .val (.long q5), .second, .val (.int len), .val (.int (0 : Int32)), .val (.ref b104), .unset, .unset, .unset, .unset, .unset, .unset, .unset] [(.long q5), (.int (4 : Int32)), (.ref b104)])) _
        refine XS.bipush X112.here hx rfl (hb hby at_103) ?_
        show Steps p.tables e below (T112.setTop (mkF m 105 #[.val (.int p1), .val (.int p2), .val (.int p3), .val (.int p4), .val (.long q5), .second, .val (.int len), .val (.int (0 : Int32)), .val (.ref b104), .unset, .unset, .unset, .unset, .unset, .unset, .unset] [(.int (24 : Int32)), (.long q5), (.int (4 : Int32)), (.ref b104)])) _
        refine XS.lushr X112.here hx rfl (hb hby at_105) rfl ?_
        show Steps p.tables e below (T112.setTop (mkF m 106 #[.val (.int p1), .val (.int p2), .val (.int p3), .val (.int p4), .val (.long q5), .second, .val (.int len), .val (.int (0 : Int32)), .val (.ref b104), .unset, .unset, .unset, .unset, .unset, .unset, .unset] [(.long ((q5.toUInt64 >>> ((24 : Int32) &&& 0x3f).toInt64.toUInt64).toInt64)), (.int (4 : Int32)), (.ref b104)])) _
        refine X112.ldc2Long hx hown (mvT hZ (hw _ (List.mem_of_getElem? (i := 2) rfl))) (g := (mkF m 106 #[.val (.int p1), .val (.int p2), .val (.int p3), .val (.int p4), .val (.long q5), .second, .val (.int len), .val (.int (0 : Int32)), .val (.ref b104), .unset, .unset, .unset, .unset, .unset, .unset, .unset] [(.long ((q5.toUInt64 >>> ((24 : Int32) &&& 0x3f).toInt64.toUInt64).toInt64)), (.int (4 : Int32)), (.ref b104)])) rfl (hb hby at_106) _ ?_
        show Steps p.tables e below (T112.setTop (mkF m 109 #[.val (.int p1), .val (.int p2), .val (.int p3), .val (.int p4), .val (.long q5), .second, .val (.int len), .val (.int (0 : Int32)), .val (.ref b104), .unset, .unset, .unset, .unset, .unset, .unset, .unset] [(.long (127 : Int64)), (.long ((q5.toUInt64 >>> ((24 : Int32) &&& 0x3f).toInt64.toUInt64).toInt64)), (.int (4 : Int32)), (.ref b104)])) _
        refine XS.land X112.here hx rfl (hb hby at_109) rfl ?_
        show Steps p.tables e below (T112.setTop (mkF m 110 #[.val (.int p1), .val (.int p2), .val (.int p3), .val (.int p4), .val (.long q5), .second, .val (.int len), .val (.int (0 : Int32)), .val (.ref b104), .unset, .unset, .unset, .unset, .unset, .unset, .unset] [(.long (((q5.toUInt64 >>> ((24 : Int32) &&& 0x3f).toInt64.toUInt64).toInt64) &&& (127 : Int64))), (.int (4 : Int32)), (.ref b104)])) _
        refine XS.l2i X112.here hx rfl (hb hby at_110) rfl ?_
        show Steps p.tables e below (T112.setTop (mkF m 111 #[.val (.int p1), .val (.int p2), .val (.int p3), .val (.int p4), .val (.long q5), .second, .val (.int len), .val (.int (0 : Int32)), .val (.ref b104), .unset, .unset, .unset, .unset, .unset, .unset, .unset] [(.int ((((q5.toUInt64 >>> ((24 : Int32) &&& 0x3f).toInt64.toUInt64).toInt64) &&& (127 : Int64)).toInt32)), (.int (4 : Int32)), (.ref b104)])) _
        refine XS.i2b X112.here hx rfl (hb hby at_111) rfl ?_
        show Steps p.tables e below (T112.setTop (mkF m 112 #[.val (.int p1), .val (.int p2), .val (.int p3), .val (.int p4), .val (.long q5), .second, .val (.int len), .val (.int (0 : Int32)), .val (.ref b104), .unset, .unset, .unset, .unset, .unset, .unset, .unset] [(.int (((((q5.toUInt64 >>> ((24 : Int32) &&& 0x3f).toInt64.toUInt64).toInt64) &&& (127 : Int64)).toInt32).toInt8.toInt32)), (.int (4 : Int32)), (.ref b104)])) _
        refine st114 _ ?_
        show Steps p.tables e below (T114.setTop (mkF m 113 #[.val (.int p1), .val (.int p2), .val (.int p3), .val (.int p4), .val (.long q5), .second, .val (.int len), .val (.int (0 : Int32)), .val (.ref b104), .unset, .unset, .unset, .unset, .unset, .unset, .unset] [])) _
        refine XS.aload X114.here hx rfl (hb hby at_113) rfl rfl ?_
        show Steps p.tables e below (T114.setTop (mkF m 115 #[.val (.int p1), .val (.int p2), .val (.int p3), .val (.int p4), .val (.long q5), .second, .val (.int len), .val (.int (0 : Int32)), .val (.ref b104), .unset, .unset, .unset, .unset, .unset, .unset, .unset] [(.ref b104)])) _
        refine XS.iconst X114.here hx rfl (hb hby at_115) ?_
        show Steps p.tables e below (T114.setTop (mkF m 116 #[.val (.int p1), .val (.int p2), .val (.int p3), .val (.int p4), .val (.long q5), .second, .val (.int len), .val (.int (0 : Int32)), .val (.ref b104), .unset, .unset, .unset, .unset, .unset, .unset, .unset] [(.int (5 : Int32)), (.ref b104)])) _
        refine XS.lload X114.here hx rfl (hb hby at_116) rfl ?_
        show Steps p.tables e below (T114.setTop (mkF m 118 #[.val (.int p1), .val (.int p2), .val (.int p3), .val (.int p4), .val (.long q5), .second, .val (.int len), .val (.int (0 : Int32)), .val (.ref b104), .unset, .unset, .unset, .unset, .unset, .unset, .unset] [(.long q5), (.int (5 : Int32)), (.ref b104)])) _
        refine XS.bipush X114.here hx rfl (hb hby at_118) ?_
        show Steps p.tables e below (T114.setTop (mkF m 120 #[.val (.int p1), .val (.int p2), .val (.int p3), .val (.int p4), .val (.long q5), .second, .val (.int len), .val (.int (0 : Int32)), .val (.ref b104), .unset, .unset, .unset, .unset, .unset, .unset, .unset] [(.int (32 : Int32)), (.long q5), (.int (5 : Int32)), (.ref b104)])) _
        refine XS.lushr X114.here hx rfl (hb hby at_120) rfl ?_
        show Steps p.tables e below (T114.setTop (mkF m 121 #[.val (.int p1), .val (.int p2), .val (.int p3), .val (.int p4), .val (.long q5), .second, .val (.int len), .val (.int (0 : Int32)), .val (.ref b104), .unset, .unset, .unset, .unset, .unset, .unset, .unset] [(.long ((q5.toUInt64 >>> ((32 : Int32) &&& 0x3f).toInt64.toUInt64).toInt64)), (.int (5 : Int32)), (.ref b104)])) _
        refine X114.ldc2Long hx hown (mvT hZ (hw _ (List.mem_of_getElem? (i := 2) rfl))) (g := (mkF m 121 #[.val (.int p1), .val (.int p2), .val (.int p3), .val (.int p4), .val (.long q5), .second, .val (.int len), .val (.int (0 : Int32)), .val (.ref b104), .unset, .unset, .unset, .unset, .unset, .unset, .unset] [(.long ((q5.toUInt64 >>> ((32 : Int32) &&& 0x3f).toInt64.toUInt64).toInt64)), (.int (5 : Int32)), (.ref b104)])) rfl (hb hby at_121) _ ?_
        show Steps p.tables e below (T114.setTop (mkF m 124 #[.val (.int p1), .val (.int p2), .val (.int p3), .val (.int p4), .val (.long q5), .second, .val (.int len), .val (.int (0 : Int32)), .val (.ref b104), .unset, .unset, .unset, .unset, .unset, .unset, .unset] [(.long (127 : Int64)), (.long ((q5.toUInt64 >>> ((32 : Int32) &&& 0x3f).toInt64.toUInt64).toInt64)), (.int (5 : Int32)), (.ref b104)])) _
        refine XS.land X114.here hx rfl (hb hby at_124) rfl ?_
        show Steps p.tables e below (T114.setTop (mkF m 125 #[.val (.int p1), .val (.int p2), .val (.int p3), .val (.int p4), .val (.long q5), .second, .val (.int len), .val (.int (0 : Int32)), .val (.ref b104), .unset, .unset, .unset, .unset, .unset, .unset, .unset] [(.long (((q5.toUInt64 >>> ((32 : Int32) &&& 0x3f).toInt64.toUInt64).toInt64) &&& (127 : Int64))), (.int (5 : Int32)), (.ref b104)])) _
        refine XS.l2i X114.here hx rfl (hb hby at_125) rfl ?_
        show Steps p.tables e below (T114.setTop (mkF m 126 #[.val (.int p1), .val (.int p2), .val (.int p3), .val (.int p4), .val (.long q5), .second, .val (.int len), .val (.int (0 : Int32)), .val (.ref b104), .unset, .unset, .unset, .unset, .unset, .unset, .unset] [(.int ((((q5.toUInt64 >>> ((32 : Int32) &&& 0x3f).toInt64.toUInt64).toInt64) &&& (127 : Int64)).toInt32)), (.int (5 : Int32)), (.ref b104)])) _
        refine XS.i2b X114.here hx rfl (hb hby at_126) rfl ?_
        show Steps p.tables e below (T114.setTop (mkF m 127 #[.val (.int p1), .val (.int p2), .val (.int p3), .val (.int p4), .val (.long q5), .second, .val (.int len), .val (.int (0 : Int32)), .val (.ref b104), .unset, .unset, .unset, .unset, .unset, .unset, .unset] [(.int (((((q5.toUInt64 >>> ((32 : Int32) &&& 0x3f).toInt64.toUInt64).toInt64) &&& (127 : Int64)).toInt32).toInt8.toInt32)), (.int (5 : Int32)), (.ref b104)])) _
        refine st116 _ ?_
        show Steps p.tables e below (T116.setTop (mkF m 128 #[.val (.int p1), .val (.int p2), .val (.int p3), .val (.int p4), .val (.long q5), .second, .val (.int len), .val (.int (0 : Int32)), .val (.ref b104), .unset, .unset, .unset, .unset, .unset, .unset, .unset] [])) _
        refine st117 _ ?_
        show Steps p.tables e below (T117.setTop (mkF m 131 #[.val (.int p1), .val (.int p2), .val (.int p3), .val (.int p4), .val (.long q5), .second, .val (.int len), .val (.int (0 : Int32)), .val (.ref b104), .unset, .unset, .unset, .unset, .unset, .unset, .unset] [(.ref b117)])) _
        refine XS.dup X117.here hx rfl (hb hby at_131) rfl rfl ?_
        show Steps p.tables e below (T117.setTop (mkF m 132 #[.val (.int p1), .val (.int p2), .val (.int p3), .val (.int p4), .val (.long q5), .second, .val (.int len), .val (.int (0 : Int32)), .val (.ref b104), .unset, .unset, .unset, .unset, .unset, .unset, .unset] [(.ref b117), (.ref b117)])) _
        refine XS.aload X117.here hx rfl (hb hby at_132) rfl rfl ?_
        show Steps p.tables e below (T117.setTop (mkF m 134 #[.val (.int p1), .val (.int p2), .val (.int p3), .val (.int p4), .val (.long q5), .second, .val (.int len), .val (.int (0 : Int32)), .val (.ref b104), .unset, .unset, .unset, .unset, .unset, .unset, .unset] [(.ref b104), (.ref b117), (.ref b117)])) _
        refine XS.iload X117.here hx rfl (hb hby at_134) rfl ?_
        show Steps p.tables e below (T117.setTop (mkF m 136 #[.val (.int p1), .val (.int p2), .val (.int p3), .val (.int p4), .val (.long q5), .second, .val (.int len), .val (.int (0 : Int32)), .val (.ref b104), .unset, .unset, .unset, .unset, .unset, .unset, .unset] [(.int len), (.ref b104), (.ref b117), (.ref b117)])) _
        refine st120.trans ?_
        show Steps p.tables e below (T120.setTop (mkF m 139 #[.val (.int p1), .val (.int p2), .val (.int p3), .val (.int p4), .val (.long q5), .second, .val (.int len), .val (.int (0 : Int32)), .val (.ref b104), .unset, .unset, .unset, .unset, .unset, .unset, .unset] [(.ref b117)])) _
        refine XS.astore X120.here hx rfl (hb hby at_139) rfl rfl (l' := #[.val (.int p1), .val (.int p2), .val (.int p3), .val (.int p4), .val (.long q5), .second, .val (.int len), .val (.int (0 : Int32)), .val (.ref b104), .val (.ref b117), .unset, .unset, .unset, .unset, .unset, .unset]) rfl ?_
        show Steps p.tables e below (T120.setTop (mkF m 141 #[.val (.int p1), .val (.int p2), .val (.int p3), .val (.int p4), .val (.long q5), .second, .val (.int len), .val (.int (0 : Int32)), .val (.ref b104), .val (.ref b117), .unset, .unset, .unset, .unset, .unset, .unset] [])) _
        refine XS.aload X120.here hx rfl (hb hby at_141) rfl rfl ?_
        show Steps p.tables e below (T120.setTop (mkF m 143 #[.val (.int p1), .val (.int p2), .val (.int p3), .val (.int p4), .val (.long q5), .second, .val (.int len), .val (.int (0 : Int32)), .val (.ref b104), .val (.ref b117), .unset, .unset, .unset, .unset, .unset, .unset] [(.ref b117)])) _
        refine st123.trans ?_
        show Steps p.tables e below (T123.setTop (mkF m 146 #[.val (.int p1), .val (.int p2), .val (.int p3), .val (.int p4), .val (.long q5), .second, .val (.int len), .val (.int (0 : Int32)), .val (.ref b104), .val (.ref b117), .unset, .unset, .unset, .unset, .unset, .unset] [(.int (own_v3 (0 : Int32) len))])) _
        refine XS.istore X123.here hx rfl (hb hby at_146) rfl (l' := #[.val (.int p1), .val (.int p2), .val (.int p3), .val (.int p4), .val (.long q5), .second, .val (.int len), .val (.int (0 : Int32)), .val (.ref b104), .val (.ref b117), .val (.int (own_v3 (0 : Int32) len)), .unset, .unset, .unset, .unset, .unset]) rfl ?_
        show Steps p.tables e below (T123.setTop (mkF m 148 #[.val (.int p1), .val (.int p2), .val (.int p3), .val (.int p4), .val (.long q5), .second, .val (.int len), .val (.int (0 : Int32)), .val (.ref b104), .val (.ref b117), .val (.int (own_v3 (0 : Int32) len)), .unset, .unset, .unset, .unset, .unset] [])) _
        refine XS.iload X123.here hx rfl (hb hby at_148) rfl ?_
        show Steps p.tables e below (T123.setTop (mkF m 150 #[.val (.int p1), .val (.int p2), .val (.int p3), .val (.int p4), .val (.long q5), .second, .val (.int len), .val (.int (0 : Int32)), .val (.ref b104), .val (.ref b117), .val (.int (own_v3 (0 : Int32) len)), .unset, .unset, .unset, .unset, .unset] [(.int (own_v3 (0 : Int32) len))])) _
        refine XS.iload X123.here hx rfl (hb hby at_150) rfl ?_
        exact k9)
    by_cases b125 : (0 : Int) < len.toInt
    · have pre126 : ∀ t, Steps p.tables e below (T123.setTop (mkF m 160 #[.val (.int p1), .val (.int p2), .val (.int p3), .val (.int p4), .val (.long q5), .second, .val (.int len), .val (.int (0 : Int32)), .val (.ref b104), .val (.ref b117), .val (.int (own_v3 (0 : Int32) len)), .unset, .unset, .unset, .unset, .unset] [(.int (1 : Int32)), (.int (own_v3 (0 : Int32) len))])) t → Steps p.tables e below (s₁.setTop (entryFrame m #[(.int p1), (.int p2), (.int p3), (.int p4), (.long q5)] maxLocals)) t := fun t9 k9 => pre124 t9 (by
          show Steps p.tables e below (T123.setTop (mkF m 152 #[.val (.int p1), .val (.int p2), .val (.int p3), .val (.int p4), .val (.long q5), .second, .val (.int len), .val (.int (0 : Int32)), .val (.ref b104), .val (.ref b117), .val (.int (own_v3 (0 : Int32) len)), .unset, .unset, .unset, .unset, .unset] [(.int len), (.int (own_v3 (0 : Int32) len))])) _
          refine XS.ifNo X123.here hx rfl (hb hby at_152) rfl ((if0 _ _).trans (own_le_f (a := len.toInt) (b := (0 : Int)) rfl (by decide) b125)) ?_
          show Steps p.tables e below (T123.setTop (mkF m 155 #[.val (.int p1), .val (.int p2), .val (.int p3), .val (.int p4), .val (.long q5), .second, .val (.int len), .val (.int (0 : Int32)), .val (.ref b104), .val (.ref b117), .val (.int (own_v3 (0 : Int32) len)), .unset, .unset, .unset, .unset, .unset] [(.int (own_v3 (0 : Int32) len))])) _
          refine XS.iconst X123.here hx rfl (hb hby at_155) ?_
          show Steps p.tables e below (T123.setTop (mkF m 156 #[.val (.int p1), .val (.int p2), .val (.int p3), .val (.int p4), .val (.long q5), .second, .val (.int len), .val (.int (0 : Int32)), .val (.ref b104), .val (.ref b117), .val (.int (own_v3 (0 : Int32) len)), .unset, .unset, .unset, .unset, .unset] [(.int (1 : Int32)), (.int (own_v3 (0 : Int32) len))])) _
          refine XS.goto X123.here hx rfl (pc0 := 156) (pc' := 160) rfl (hb hby at_156) (by decide) (by decide) ?_
          exact k9)
      have b127 : (own_v3 (0 : Int32) len).toInt = (1 : Int) := by (have h01 := own_v3_01 (0 : Int32) len; have h00 : (0 : Int32).toInt = 0 := (by decide); omega)
      have pre128 : ∀ t, Steps p.tables e below (T123.setTop (mkF m 188 #[.val (.int p1), .val (.int p2), .val (.int p3), .val (.int p4), .val (.long q5), .second, .val (.int len), .val (.int (0 : Int32)), .val (.ref b104), .val (.ref b117), .val (.int (own_v3 (0 : Int32) len)), .val (.int len), .unset, .unset, .unset, .unset] [(.int ((p2 &&& (2147483647 : Int32)) % (7 : Int32)))])) t → Steps p.tables e below (s₁.setTop (entryFrame m #[(.int p1), (.int p2), (.int p3), (.int p4), (.long q5)] maxLocals)) t := fun t9 k9 => pre126 t9 (by
          show Steps p.tables e below (T123.setTop (mkF m 160 #[.val (.int p1), .val (.int p2), .val (.int p3), .val (.int p4), .val (.long q5), .second, .val (.int len), .val (.int (0 : Int32)), .val (.ref b104), .val (.ref b117), .val (.int (own_v3 (0 : Int32) len)), .unset, .unset, .unset, .unset, .unset] [(.int (1 : Int32)), (.int (own_v3 (0 : Int32) len))])) _
          refine XS.icmpYes X123.here hx rfl (pc0 := 160) (pc' := 165) rfl (hb hby at_160) rfl (own_eq_t (a := (own_v3 (0 : Int32) len).toInt) (b := (1 : Int)) rfl (by decide) b127) (by decide) (by decide) ?_
          show Steps p.tables e below (T123.setTop (mkF m 165 #[.val (.int p1), .val (.int p2), .val (.int p3), .val (.int p4), .val (.long q5), .second, .val (.int len), .val (.int (0 : Int32)), .val (.ref b104), .val (.ref b117), .val (.int (own_v3 (0 : Int32) len)), .unset, .unset, .unset, .unset, .unset] [])) _
          refine XS.iload X123.here hx rfl (hb hby at_165) rfl ?_
          show Steps p.tables e below (T123.setTop (mkF m 167 #[.val (.int p1), .val (.int p2), .val (.int p3), .val (.int p4), .val (.long q5), .second, .val (.int len), .val (.int (0 : Int32)), .val (.ref b104), .val (.ref b117), .val (.int (own_v3 (0 : Int32) len)), .unset, .unset, .unset, .unset, .unset] [(.int (0 : Int32))])) _
          refine XS.ifYes X123.here hx rfl (pc0 := 167) (pc' := 177) rfl (hb hby at_167) rfl ((if0 _ _).trans (own_eq_t (a := (0 : Int)) (b := (0 : Int)) (by decide) (by decide) (by decide))) (by decide) (by decide) ?_
          show Steps p.tables e below (T123.setTop (mkF m 177 #[.val (.int p1), .val (.int p2), .val (.int p3), .val (.int p4), .val (.long q5), .second, .val (.int len), .val (.int (0 : Int32)), .val (.ref b104), .val (.ref b117), .val (.int (own_v3 (0 : Int32) len)), .unset, .unset, .unset, .unset, .unset] [])) _
          refine XS.iload X123.here hx rfl (hb hby at_177) rfl ?_
          show Steps p.tables e below (T123.setTop (mkF m 179 #[.val (.int p1), .val (.int p2), .val (.int p3), .val (.int p4), .val (.long q5), .second, .val (.int len), .val (.int (0 : Int32)), .val (.ref b104), .val (.ref b117), .val (.int (own_v3 (0 : Int32) len)), .unset, .unset, .unset, .unset, .unset] [(.int len)])) _
          refine XS.istore X123.here hx rfl (hb hby at_179) rfl (l' := #[.val (.int p1), .val (.int p2), .val (.int p3), .val (.int p4), .val (.long q5), .second, .val (.int len), .val (.int (0 : Int32)), .val (.ref b104), .val (.ref b117), .val (.int (own_v3 (0 : Int32) len)), .val (.int len), .unset, .unset, .unset, .unset]) rfl ?_
          show Steps p.tables e below (T123.setTop (mkF m 181 #[.val (.int p1), .val (.int p2), .val (.int p3), .val (.int p4), .val (.long q5), .second, .val (.int len), .val (.int (0 : Int32)), .val (.ref b104), .val (.ref b117), .val (.int (own_v3 (0 : Int32) len)), .val (.int len), .unset, .unset, .unset, .unset] [])) _
          refine XS.iloadN X123.here hx rfl (hb hby at_181) rfl ?_
          show Steps p.tables e below (T123.setTop (mkF m 182 #[.val (.int p1), .val (.int p2), .val (.int p3), .val (.int p4), .val (.long q5), .second, .val (.int len), .val (.int (0 : Int32)), .val (.ref b104), .val (.ref b117), .val (.int (own_v3 (0 : Int32) len)), .val (.int len), .unset, .unset, .unset, .unset] [(.int p2)])) _
          refine X123.ldcInt hx hown (mvT hZ (hw _ (List.mem_of_getElem? (i := 0) rfl))) (g := (mkF m 182 #[.val (.int p1), .val (.int p2), .val (.int p3), .val (.int p4), .val (.long q5), .second, .val (.int len), .val (.int (0 : Int32)), .val (.ref b104), .val (.ref b117), .val (.int (own_v3 (0 : Int32) len)), .val (.int len), .unset, .unset, .unset, .unset] [(.int p2)])) rfl (hb hby at_182) _ ?_
          show Steps p.tables e below (T123.setTop (mkF m 184 #[.val (.int p1), .val (.int p2), .val (.int p3), .val (.int p4), .val (.long q5), .second, .val (.int len), .val (.int (0 : Int32)), .val (.ref b104), .val (.ref b117), .val (.int (own_v3 (0 : Int32) len)), .val (.int len), .unset, .unset, .unset, .unset] [(.int (2147483647 : Int32)), (.int p2)])) _
          refine XS.iand X123.here hx rfl (hb hby at_184) rfl ?_
          show Steps p.tables e below (T123.setTop (mkF m 185 #[.val (.int p1), .val (.int p2), .val (.int p3), .val (.int p4), .val (.long q5), .second, .val (.int len), .val (.int (0 : Int32)), .val (.ref b104), .val (.ref b117), .val (.int (own_v3 (0 : Int32) len)), .val (.int len), .unset, .unset, .unset, .unset] [(.int (p2 &&& (2147483647 : Int32)))])) _
          refine XS.bipush X123.here hx rfl (hb hby at_185) ?_
          show Steps p.tables e below (T123.setTop (mkF m 187 #[.val (.int p1), .val (.int p2), .val (.int p3), .val (.int p4), .val (.long q5), .second, .val (.int len), .val (.int (0 : Int32)), .val (.ref b104), .val (.ref b117), .val (.int (own_v3 (0 : Int32) len)), .val (.int len), .unset, .unset, .unset, .unset] [(.int (7 : Int32)), (.int (p2 &&& (2147483647 : Int32)))])) _
          refine iremM X123 hx rfl (hb hby at_187) rfl (by decide) ?_
          exact k9)
      obtain ⟨rd, h_rd⟩ : ∃ z, ((p2 &&& (2147483647 : Int32)) % (7 : Int32)) = z := ⟨_, rfl⟩
      rw [h_rd] at pre128 hr3
      clear hr2
      obtain ⟨_, _, ⟨T129, L129, k129, n129⟩, -, X129, ⟨Lc129, hQ129, l129, y129, z129⟩, st129⟩ := Jvm.LawKit.callS X123 hx (y := (⟨"java/lang/Math", "min", "(II)I"⟩ : MethodName)) hown (mvT hZ (hw _ (List.mem_of_getElem? (i := 23) rfl))) (mvT hZ (hw _ (List.mem_of_getElem? (i := 24) rfl))) (mvT hZ (hw _ (List.mem_of_getElem? (i := 25) rfl))) (mvT hZ (hw _ (List.mem_of_getElem? (i := 26) rfl))) (by decide) (backOf (W := 0) (rm4 l Z a0 hw [] rd len T120.heap n0 Z120 ) hZ (hw _ (List.mem_of_getElem? (i := 26) rfl)) (hw _ (List.mem_of_getElem? (i := 25) rfl)) (by decide) (by decide)) (g := (mkF m 190 #[.val (.int p1), .val (.int p2), .val (.int p3), .val (.int p4), .val (.long q5), .second, .val (.int len), .val (.int (0 : Int32)), .val (.ref b104), .val (.ref b117), .val (.int (own_v3 (0 : Int32) len)), .val (.int len), .unset, .unset, .unset, .unset] [(.int len), (.int rd)])) rfl (by rw [hml]; rfl) (argsL := [(.int rd), (.int len)]) (rest := []) (lenOf pd_0_2 rfl) rfl (by show 2 * 0 + _ ≤ _; exact Nat.le_of_eq rfl) (hb hby at_190) (fun _ _ => ⟨rfl, e123, (by decide : 2 + 0 ≤ _), (by decide : 9 + 0 ≤ _)⟩)
      dsimp only [Pt.U, Pt.locs, Pt.cells, Pt.slots] at X129 l129 y129 z129 st129 hQ129
      subst l129 y129 z129
      obtain ⟨hv129, N129q, e129⟩ := hQ129
      have hmin := own_v4_s rd len
      obtain ⟨k, h_k⟩ : ∃ z, (own_v4 rd len) = z := ⟨_, rfl⟩
      rw [h_k] at hmin hv129
      have hkl := c_i2l k
      have hk1 := own_add1 k (by omega)
      subst hv129
      have N129 := Fr.app N123 N129q
      obtain ⟨cq130, kq130, q130a, q130b, q130c⟩ := isOf hZ e129 E120x
      obtain ⟨_, _, ⟨T130, L130, k130, n130⟩, -, X130, ⟨Lc130, hQ130, l130, y130, z130⟩, st130⟩ := X129.virtualBack hx (y := (⟨"com/example/pesquisa/pesquisa/index/ByteSource", "skipNumbers", "(J)V"⟩ : MethodName)) (z := (⟨"com/example/pesquisa/pesquisa/index/ByteSource", "skipNumbers", "(J)V"⟩ : MethodName)) hown (mvT hZ (hw _ (List.mem_of_getElem? (i := 27) rfl))) (mvT hZ (hw _ (List.mem_of_getElem? (i := 28) rfl))) (notFace_of_selects (args := #[]) (mvT hZ (hw _ (List.mem_of_getElem? (i := 30) rfl)))) (mvT hZ (hw _ (List.mem_of_getElem? (i := 30) rfl))) (mvT hZ (hw _ (List.mem_of_getElem? (i := 29) rfl))) (by decide) (backOf (W := 0) (rm5 l Z a0 hw [] b117 (k.toInt64) b104 cl len 0 T120.heap n0 Z120 E120x F120_bytes F120_end F120_position g_b117 Ak121 ne118 hall hbits (Or.inl ⟨rfl, hbit0⟩) (by omega) (by omega) (by omega)) hZ (hw _ (List.mem_of_getElem? (i := 31) rfl)) (hw _ (List.mem_of_getElem? (i := 5) rfl)) (by decide) (by decide)) q130a q130c (g := (mkF m 200 #[.val (.int p1), .val (.int p2), .val (.int p3), .val (.int p4), .val (.long q5), .second, .val (.int len), .val (.int (0 : Int32)), .val (.ref b104), .val (.ref b117), .val (.int (own_v3 (0 : Int32) len)), .val (.int len), .val (.int k), .unset, .unset, .unset] [(.long (k.toInt64)), (.ref b117)])) rfl (by rw [hml]; rfl) (Steps.refl _) (argsL := [(.long (k.toInt64))]) (rest := []) (lenOf pd_0_3 rfl) rfl (by show 2 * 0 + _ ≤ _; exact Nat.le_of_eq rfl) (hb hby at_200) (fun _ _ => ⟨rfl, e129, (by decide : 2 + 0 ≤ _), (by decide : 9 + 0 ≤ _)⟩)
      dsimp only [Pt.U, Pt.locs, Pt.cells, Pt.slots] at X130 l130 y130 z130 st130 hQ130
      subst l130 y130 z130
      obtain ⟨ps130, hv130, N130q, K130, E130x, Fb130, Fe130, Fp130, hps130⟩ := hQ130
      subst hv130
      have N130 := Fr.app N129 N130q
      have Ak131 := own_arr_keep Ak121 K130 (ninS ne118 nin0)
      have Ek132 := E120x.keep K130
      have KK130 := KK120.trans K130 (allS (Or.inr sz_b117) all0)
      have Z130 : n0 ≤ T130.heap.size := Nat.le_trans Z120 K130.1
      rw [c_i2l] at hps130
      have pre133 : ∀ t, Steps p.tables e below (T130.setTop (mkF m 205 #[.val (.int p1), .val (.int p2), .val (.int p3), .val (.int p4), .val (.long q5), .second, .val (.int len), .val (.int (0 : Int32)), .val (.ref b104), .val (.ref b117), .val (.int (own_v3 (0 : Int32) len)), .val (.int len), .val (.int k), .unset, .unset, .unset] [(.int k)])) t → Steps p.tables e below (s₁.setTop (entryFrame m #[(.int p1), (.int p2), (.int p3), (.int p4), (.long q5)] maxLocals)) t := fun t9 k9 => pre128 t9 (by
          show Steps p.tables e below (T123.setTop (mkF m 188 #[.val (.int p1), .val (.int p2), .val (.int p3), .val (.int p4), .val (.long q5), .second, .val (.int len), .val (.int (0 : Int32)), .val (.ref b104), .val (.ref b117), .val (.int (own_v3 (0 : Int32) len)), .val (.int len), .unset, .unset, .unset, .unset] [(.int rd)])) _
          refine XS.iload X123.here hx rfl (hb hby at_188) rfl ?_
          show Steps p.tables e below (T123.setTop (mkF m 190 #[.val (.int p1), .val (.int p2), .val (.int p3), .val (.int p4), .val (.long q5), .second, .val (.int len), .val (.int (0 : Int32)), .val (.ref b104), .val (.ref b117), .val (.int (own_v3 (0 : Int32) len)), .val (.int len), .unset, .unset, .unset, .unset] [(.int len), (.int rd)])) _
          refine st129 _ ?_
          show Steps p.tables e below (T129.setTop (mkF m 193 #[.val (.int p1), .val (.int p2), .val (.int p3), .val (.int p4), .val (.long q5), .second, .val (.int len), .val (.int (0 : Int32)), .val (.ref b104), .val (.ref b117), .val (.int (own_v3 (0 : Int32) len)), .val (.int len), .unset, .unset, .unset, .unset] [(.int k)])) _
          refine XS.istore X129.here hx rfl (hb hby at_193) rfl (l' := #[.val (.int p1), .val (.int p2), .val (.int p3), .val (.int p4), .val (.long q5), .second, .val (.int len), .val (.int (0 : Int32)), .val (.ref b104), .val (.ref b117), .val (.int (own_v3 (0 : Int32) len)), .val (.int len), .val (.int k), .unset, .unset, .unset]) rfl ?_
          show Steps p.tables e below (T129.setTop (mkF m 195 #[.val (.int p1), .val (.int p2), .val (.int p3), .val (.int p4), .val (.long q5), .second, .val (.int len), .val (.int (0 : Int32)), .val (.ref b104), .val (.ref b117), .val (.int (own_v3 (0 : Int32) len)), .val (.int len), .val (.int k), .unset, .unset, .unset] [])) _
          refine XS.aload X129.here hx rfl (hb hby at_195) rfl rfl ?_
          show Steps p.tables e below (T129.setTop (mkF m 197 #[.val (.int p1), .val (.int p2), .val (.int p3), .val (.int p4), .val (.long q5), .second, .val (.int len), .val (.int (0 : Int32)), .val (.ref b104), .val (.ref b117), .val (.int (own_v3 (0 : Int32) len)), .val (.int len), .val (.int k), .unset, .unset, .unset] [(.ref b117)])) _
          refine XS.iload X129.here hx rfl (hb hby at_197) rfl ?_
          show Steps p.tables e below (T129.setTop (mkF m 199 #[.val (.int p1), .val (.int p2), .val (.int p3), .val (.int p4), .val (.long q5), .second, .val (.int len), .val (.int (0 : Int32)), .val (.ref b104), .val (.ref b117), .val (.int (own_v3 (0 : Int32) len)), .val (.int len), .val (.int k), .unset, .unset, .unset] [(.int k), (.ref b117)])) _
          refine XS.i2l X129.here hx rfl (hb hby at_199) rfl ?_
          show Steps p.tables e below (T129.setTop (mkF m 200 #[.val (.int p1), .val (.int p2), .val (.int p3), .val (.int p4), .val (.long q5), .second, .val (.int len), .val (.int (0 : Int32)), .val (.ref b104), .val (.ref b117), .val (.int (own_v3 (0 : Int32) len)), .val (.int len), .val (.int k), .unset, .unset, .unset] [(.long (k.toInt64)), (.ref b117)])) _
          refine st130.trans ?_
          show Steps p.tables e below (T130.setTop (mkF m 203 #[.val (.int p1), .val (.int p2), .val (.int p3), .val (.int p4), .val (.long q5), .second, .val (.int len), .val (.int (0 : Int32)), .val (.ref b104), .val (.ref b117), .val (.int (own_v3 (0 : Int32) len)), .val (.int len), .val (.int k), .unset, .unset, .unset] [])) _
          refine XS.iload X130.here hx rfl (hb hby at_203) rfl ?_
          exact k9)
      by_cases b134 : k.toInt = (0 : Int)
      · have hpk : ps130.toInt = 0 := by rw [hps130, (by assumption : k.toInt = (0 : Int))]; exact own_at_0 _
        obtain ⟨cq135, kq135, q135a, q135b, q135c⟩ := isOf hZ rfl E130x
        obtain ⟨_, _, ⟨T135, L135, k135, n135⟩, -, X135, ⟨Lc135, hQ135, l135, y135, z135⟩, st135⟩ := X130.virtualBack hx (y := (⟨"com/example/pesquisa/pesquisa/index/ByteSource", "hasMore", "()Z"⟩ : MethodName)) (z := (⟨"com/example/pesquisa/pesquisa/index/ByteSource", "hasMore", "()Z"⟩ : MethodName)) hown (mvT hZ (hw _ (List.mem_of_getElem? (i := 16) rfl))) (mvT hZ (hw _ (List.mem_of_getElem? (i := 17) rfl))) (notFace_of_selects (args := #[]) (mvT hZ (hw _ (List.mem_of_getElem? (i := 19) rfl)))) (mvT hZ (hw _ (List.mem_of_getElem? (i := 19) rfl))) (mvT hZ (hw _ (List.mem_of_getElem? (i := 18) rfl))) (by decide) (backOf (W := 0) (rm3 l Z a0 hw [] b117 len ps130 T130.heap n0 Z130 Fe130 Fp130) hZ (hw _ (List.mem_of_getElem? (i := 20) rfl)) (hw _ (List.mem_of_getElem? (i := 5) rfl)) (by decide) (by decide)) q135a q135c (g := (mkF m 230 #[.val (.int p1), .val (.int p2), .val (.int p3), .val (.int p4), .val (.long q5), .second, .val (.int len), .val (.int (0 : Int32)), .val (.ref b104), .val (.ref b117), .val (.int (own_v3 (0 : Int32) len)), .val (.int len), .val (.int k), .val (.int (0 : Int32)), .unset, .unset] [(.ref b117)])) rfl (by rw [hml]; rfl) (Steps.refl _) (argsL := []) (rest := []) (lenOf pd_0_1 rfl) rfl (by show 2 * 0 + _ ≤ _; exact Nat.le_of_eq rfl) (hb hby at_230) (fun _ _ => ⟨rfl, rfl, (by decide : 2 + 0 ≤ _), (by decide : 9 + 0 ≤ _)⟩)
        dsimp only [Pt.U, Pt.locs, Pt.cells, Pt.slots] at X135 l135 y135 z135 st135 hQ135
        subst l135 y135 z135
        obtain ⟨hv135, N135q, e135⟩ := hQ135
        subst hv135
        have N135 := Fr.app N130 N135q
        obtain ⟨cq136, kq136, q136a, q136b, q136c⟩ := isOf hZ e135 E130x
        obtain ⟨_, _, ⟨T136, L136, k136, n136⟩, -, X136, ⟨Lc136, hQ136, l136, y136, z136⟩, st136⟩ := X135.virtualBack hx (y := (⟨"com/example/pesquisa/pesquisa/index/ByteSource", "hasMore", "()Z"⟩ : MethodName)) (z := (⟨"com/example/pesquisa/pesquisa/index/ByteSource", "hasMore", "()Z"⟩ : MethodName)) hown (mvT hZ (hw _ (List.mem_of_getElem? (i := 16) rfl))) (mvT hZ (hw _ (List.mem_of_getElem? (i := 17) rfl))) (notFace_of_selects (args := #[]) (mvT hZ (hw _ (List.mem_of_getElem? (i := 19) rfl)))) (mvT hZ (hw _ (List.mem_of_getElem? (i := 19) rfl))) (mvT hZ (hw _ (List.mem_of_getElem? (i := 18) rfl))) (by decide) (backOf (W := 0) (rm3 l Z a0 hw [] b117 len ps130 T130.heap n0 Z130 Fe130 Fp130) hZ (hw _ (List.mem_of_getElem? (i := 20) rfl)) (hw _ (List.mem_of_getElem? (i := 5) rfl)) (by decide) (by decide)) q136a q136c (g := (mkF m 237 #[.val (.int p1), .val (.int p2), .val (.int p3), .val (.int p4), .val (.long q5), .second, .val (.int len), .val (.int (0 : Int32)), .val (.ref b104), .val (.ref b117), .val (.int (own_v3 (0 : Int32) len)), .val (.int len), .val (.int k), .val (.int (0 : Int32)), .val (.int (own_v3 ps130 len)), .unset] [(.ref b117)])) rfl (by rw [hml]; rfl) (Steps.refl _) (argsL := []) (rest := []) (lenOf pd_0_1 rfl) rfl (by show 2 * 0 + _ ≤ _; exact Nat.le_of_eq rfl) (hb hby at_237) (fun _ _ => ⟨rfl, e135, (by decide : 2 + 0 ≤ _), (by decide : 9 + 0 ≤ _)⟩)
        dsimp only [Pt.U, Pt.locs, Pt.cells, Pt.slots] at X136 l136 y136 z136 st136 hQ136
        subst l136 y136 z136
        obtain ⟨hv136, N136q, e136⟩ := hQ136
        subst hv136
        have N136 := Fr.app N135 N136q
        have pre137 : ∀ t, Steps p.tables e below (T136.setTop (mkF m 248 #[.val (.int p1), .val (.int p2), .val (.int p3), .val (.int p4), .val (.long q5), .second, .val (.int len), .val (.int (0 : Int32)), .val (.ref b104), .val (.ref b117), .val (.int (own_v3 (0 : Int32) len)), .val (.int len), .val (.int k), .val (.int (0 : Int32)), .val (.int (own_v3 ps130 len)), .val (.int (own_v3 ps130 len))] [(.int len), (.int (0 : Int32)), (.int (own_v3 ps130 len))])) t → Steps p.tables e below (s₁.setTop (entryFrame m #[(.int p1), (.int p2), (.int p3), (.int p4), (.long q5)] maxLocals)) t := fun t9 k9 => pre133 t9 (by
            show Steps p.tables e below (T130.setTop (mkF m 205 #[.val (.int p1), .val (.int p2), .val (.int p3), .val (.int p4), .val (.long q5), .second, .val (.int len), .val (.int (0 : Int32)), .val (.ref b104), .val (.ref b117), .val (.int (own_v3 (0 : Int32) len)), .val (.int len), .val (.int k), .unset, .unset, .unset] [(.int k)])) _
            refine XS.ifNo X130.here hx rfl (hb hby at_205) rfl ((if0 _ _).trans (own_ne_f (a := k.toInt) (b := (0 : Int)) rfl (by decide) b134)) ?_
            show Steps p.tables e below (T130.setTop (mkF m 208 #[.val (.int p1), .val (.int p2), .val (.int p3), .val (.int p4), .val (.long q5), .second, .val (.int len), .val (.int (0 : Int32)), .val (.ref b104), .val (.ref b117), .val (.int (own_v3 (0 : Int32) len)), .val (.int len), .val (.int k), .unset, .unset, .unset] [])) _
            refine XS.iconst X130.here hx rfl (hb hby at_208) ?_
            show Steps p.tables e below (T130.setTop (mkF m 209 #[.val (.int p1), .val (.int p2), .val (.int p3), .val (.int p4), .val (.long q5), .second, .val (.int len), .val (.int (0 : Int32)), .val (.ref b104), .val (.ref b117), .val (.int (own_v3 (0 : Int32) len)), .val (.int len), .val (.int k), .unset, .unset, .unset] [(.int (0 : Int32))])) _
            refine XS.goto X130.here hx rfl (pc0 := 209) (pc' := 226) rfl (hb hby at_209) (by decide) (by decide) ?_
            show Steps p.tables e below (T130.setTop (mkF m 226 #[.val (.int p1), .val (.int p2), .val (.int p3), .val (.int p4), .val (.long q5), .second, .val (.int len), .val (.int (0 : Int32)), .val (.ref b104), .val (.ref b117), .val (.int (own_v3 (0 : Int32) len)), .val (.int len), .val (.int k), .unset, .unset, .unset] [(.int (0 : Int32))])) _
            refine XS.istore X130.here hx rfl (hb hby at_226) rfl (l' := #[.val (.int p1), .val (.int p2), .val (.int p3), .val (.int p4), .val (.long q5), .second, .val (.int len), .val (.int (0 : Int32)), .val (.ref b104), .val (.ref b117), .val (.int (own_v3 (0 : Int32) len)), .val (.int len), .val (.int k), .val (.int (0 : Int32)), .unset, .unset]) rfl ?_
            show Steps p.tables e below (T130.setTop (mkF m 228 #[.val (.int p1), .val (.int p2), .val (.int p3), .val (.int p4), .val (.long q5), .second, .val (.int len), .val (.int (0 : Int32)), .val (.ref b104), .val (.ref b117), .val (.int (own_v3 (0 : Int32) len)), .val (.int len), .val (.int k), .val (.int (0 : Int32)), .unset, .unset] [])) _
            refine XS.aload X130.here hx rfl (hb hby at_228) rfl rfl ?_
            show Steps p.tables e below (T130.setTop (mkF m 230 #[.val (.int p1), .val (.int p2), .val (.int p3), .val (.int p4), .val (.long q5), .second, .val (.int len), .val (.int (0 : Int32)), .val (.ref b104), .val (.ref b117), .val (.int (own_v3 (0 : Int32) len)), .val (.int len), .val (.int k), .val (.int (0 : Int32)), .unset, .unset] [(.ref b117)])) _
            refine st135.trans ?_
            show Steps p.tables e below (T135.setTop (mkF m 233 #[.val (.int p1), .val (.int p2), .val (.int p3), .val (.int p4), .val (.long q5), .second, .val (.int len), .val (.int (0 : Int32)), .val (.ref b104), .val (.ref b117), .val (.int (own_v3 (0 : Int32) len)), .val (.int len), .val (.int k), .val (.int (0 : Int32)), .unset, .unset] [(.int (own_v3 ps130 len))])) _
            refine XS.istore X135.here hx rfl (hb hby at_233) rfl (l' := #[.val (.int p1), .val (.int p2), .val (.int p3), .val (.int p4), .val (.long q5), .second, .val (.int len), .val (.int (0 : Int32)), .val (.ref b104), .val (.ref b117), .val (.int (own_v3 (0 : Int32) len)), .val (.int len), .val (.int k), .val (.int (0 : Int32)), .val (.int (own_v3 ps130 len)), .unset]) rfl ?_
            show Steps p.tables e below (T135.setTop (mkF m 235 #[.val (.int p1), .val (.int p2), .val (.int p3), .val (.int p4), .val (.long q5), .second, .val (.int len), .val (.int (0 : Int32)), .val (.ref b104), .val (.ref b117), .val (.int (own_v3 (0 : Int32) len)), .val (.int len), .val (.int k), .val (.int (0 : Int32)), .val (.int (own_v3 ps130 len)), .unset] [])) _
            refine XS.aload X135.here hx rfl (hb hby at_235) rfl rfl ?_
            show Steps p.tables e below (T135.setTop (mkF m 237 #[.val (.int p1), .val (.int p2), .val (.int p3), .val (.int p4), .val (.long q5), .second, .val (.int len), .val (.int (0 : Int32)), .val (.ref b104), .val (.ref b117), .val (.int (own_v3 (0 : Int32) len)), .val (.int len), .val (.int k), .val (.int (0 : Int32)), .val (.int (own_v3 ps130 len)), .unset] [(.ref b117)])) _
            refine st136.trans ?_
            show Steps p.tables e below (T136.setTop (mkF m 240 #[.val (.int p1), .val (.int p2), .val (.int p3), .val (.int p4), .val (.long q5), .second, .val (.int len), .val (.int (0 : Int32)), .val (.ref b104), .val (.ref b117), .val (.int (own_v3 (0 : Int32) len)), .val (.int len), .val (.int k), .val (.int (0 : Int32)), .val (.int (own_v3 ps130 len)), .unset] [(.int (own_v3 ps130 len))])) _
            refine XS.istore X136.here hx rfl (hb hby at_240) rfl (l' := #[.val (.int p1), .val (.int p2), .val (.int p3), .val (.int p4), .val (.long q5), .second, .val (.int len), .val (.int (0 : Int32)), .val (.ref b104), .val (.ref b117), .val (.int (own_v3 (0 : Int32) len)), .val (.int len), .val (.int k), .val (.int (0 : Int32)), .val (.int (own_v3 ps130 len)), .val (.int (own_v3 ps130 len))]) rfl ?_
            show Steps p.tables e below (T136.setTop (mkF m 242 #[.val (.int p1), .val (.int p2), .val (.int p3), .val (.int p4), .val (.long q5), .second, .val (.int len), .val (.int (0 : Int32)), .val (.ref b104), .val (.ref b117), .val (.int (own_v3 (0 : Int32) len)), .val (.int len), .val (.int k), .val (.int (0 : Int32)), .val (.int (own_v3 ps130 len)), .val (.int (own_v3 ps130 len))] [])) _
            refine XS.iload X136.here hx rfl (hb hby at_242) rfl ?_
            show Steps p.tables e below (T136.setTop (mkF m 244 #[.val (.int p1), .val (.int p2), .val (.int p3), .val (.int p4), .val (.long q5), .second, .val (.int len), .val (.int (0 : Int32)), .val (.ref b104), .val (.ref b117), .val (.int (own_v3 (0 : Int32) len)), .val (.int len), .val (.int k), .val (.int (0 : Int32)), .val (.int (own_v3 ps130 len)), .val (.int (own_v3 ps130 len))] [(.int (own_v3 ps130 len))])) _
            refine XS.iload X136.here hx rfl (hb hby at_244) rfl ?_
            show Steps p.tables e below (T136.setTop (mkF m 246 #[.val (.int p1), .val (.int p2), .val (.int p3), .val (.int p4), .val (.long q5), .second, .val (.int len), .val (.int (0 : Int32)), .val (.ref b104), .val (.ref b117), .val (.int (own_v3 (0 : Int32) len)), .val (.int len), .val (.int k), .val (.int (0 : Int32)), .val (.int (own_v3 ps130 len)), .val (.int (own_v3 ps130 len))] [(.int (0 : Int32)), (.int (own_v3 ps130 len))])) _
            refine XS.iload X136.here hx rfl (hb hby at_246) rfl ?_
            exact k9)
        have b138 : (0 : Int) < len.toInt := by omega
        have pre139 : ∀ t, Steps p.tables e below (T136.setTop (mkF m 256 #[.val (.int p1), .val (.int p2), .val (.int p3), .val (.int p4), .val (.long q5), .second, .val (.int len), .val (.int (0 : Int32)), .val (.ref b104), .val (.ref b117), .val (.int (own_v3 (0 : Int32) len)), .val (.int len), .val (.int k), .val (.int (0 : Int32)), .val (.int (own_v3 ps130 len)), .val (.int (own_v3 ps130 len))] [(.int (1 : Int32)), (.int (own_v3 ps130 len))])) t → Steps p.tables e below (s₁.setTop (entryFrame m #[(.int p1), (.int p2), (.int p3), (.int p4), (.long q5)] maxLocals)) t := fun t9 k9 => pre137 t9 (by
            show Steps p.tables e below (T136.setTop (mkF m 248 #[.val (.int p1), .val (.int p2), .val (.int p3), .val (.int p4), .val (.long q5), .second, .val (.int len), .val (.int (0 : Int32)), .val (.ref b104), .val (.ref b117), .val (.int (own_v3 (0 : Int32) len)), .val (.int len), .val (.int k), .val (.int (0 : Int32)), .val (.int (own_v3 ps130 len)), .val (.int (own_v3 ps130 len))] [(.int len), (.int (0 : Int32)), (.int (own_v3 ps130 len))])) _
            refine XS.icmpNo X136.here hx rfl (hb hby at_248) rfl (own_ge_f (a := (0 : Int)) (b := len.toInt) (by decide) rfl b138) ?_
            show Steps p.tables e below (T136.setTop (mkF m 251 #[.val (.int p1), .val (.int p2), .val (.int p3), .val (.int p4), .val (.long q5), .second, .val (.int len), .val (.int (0 : Int32)), .val (.ref b104), .val (.ref b117), .val (.int (own_v3 (0 : Int32) len)), .val (.int len), .val (.int k), .val (.int (0 : Int32)), .val (.int (own_v3 ps130 len)), .val (.int (own_v3 ps130 len))] [(.int (own_v3 ps130 len))])) _
            refine XS.iconst X136.here hx rfl (hb hby at_251) ?_
            show Steps p.tables e below (T136.setTop (mkF m 252 #[.val (.int p1), .val (.int p2), .val (.int p3), .val (.int p4), .val (.long q5), .second, .val (.int len), .val (.int (0 : Int32)), .val (.ref b104), .val (.ref b117), .val (.int (own_v3 (0 : Int32) len)), .val (.int len), .val (.int k), .val (.int (0 : Int32)), .val (.int (own_v3 ps130 len)), .val (.int (own_v3 ps130 len))] [(.int (1 : Int32)), (.int (own_v3 ps130 len))])) _
            refine XS.goto X136.here hx rfl (pc0 := 252) (pc' := 256) rfl (hb hby at_252) (by decide) (by decide) ?_
            exact k9)
        have b140 : (own_v3 ps130 len).toInt = (1 : Int) := by (have h01 := own_v3_01 ps130 len; omega)
        have pre141 : ∀ t, Steps p.tables e below (T136.setTop (mkF m 263 #[.val (.int p1), .val (.int p2), .val (.int p3), .val (.int p4), .val (.long q5), .second, .val (.int len), .val (.int (0 : Int32)), .val (.ref b104), .val (.ref b117), .val (.int (own_v3 (0 : Int32) len)), .val (.int len), .val (.int k), .val (.int (0 : Int32)), .val (.int (own_v3 ps130 len)), .val (.int (own_v3 ps130 len))] [(.int (own_v3 ps130 len)), (.int (own_v3 ps130 len))])) t → Steps p.tables e below (s₁.setTop (entryFrame m #[(.int p1), (.int p2), (.int p3), (.int p4), (.long q5)] maxLocals)) t := fun t9 k9 => pre139 t9 (by
            show Steps p.tables e below (T136.setTop (mkF m 256 #[.val (.int p1), .val (.int p2), .val (.int p3), .val (.int p4), .val (.long q5), .second, .val (.int len), .val (.int (0 : Int32)), .val (.ref b104), .val (.ref b117), .val (.int (own_v3 (0 : Int32) len)), .val (.int len), .val (.int k), .val (.int (0 : Int32)), .val (.int (own_v3 ps130 len)), .val (.int (own_v3 ps130 len))] [(.int (1 : Int32)), (.int (own_v3 ps130 len))])) _
            refine XS.icmpNo X136.here hx rfl (hb hby at_256) rfl (own_ne_f (a := (own_v3 ps130 len).toInt) (b := (1 : Int)) rfl (by decide) b140) ?_
            show Steps p.tables e below (T136.setTop (mkF m 259 #[.val (.int p1), .val (.int p2), .val (.int p3), .val (.int p4), .val (.long q5), .second, .val (.int len), .val (.int (0 : Int32)), .val (.ref b104), .val (.ref b117), .val (.int (own_v3 (0 : Int32) len)), .val (.int len), .val (.int k), .val (.int (0 : Int32)), .val (.int (own_v3 ps130 len)), .val (.int (own_v3 ps130 len))] [])) _
            refine XS.iload X136.here hx rfl (hb hby at_259) rfl ?_
            show Steps p.tables e below (T136.setTop (mkF m 261 #[.val (.int p1), .val (.int p2), .val (.int p3), .val (.int p4), .val (.long q5), .second, .val (.int len), .val (.int (0 : Int32)), .val (.ref b104), .val (.ref b117), .val (.int (own_v3 (0 : Int32) len)), .val (.int len), .val (.int k), .val (.int (0 : Int32)), .val (.int (own_v3 ps130 len)), .val (.int (own_v3 ps130 len))] [(.int (own_v3 ps130 len))])) _
            refine XS.iload X136.here hx rfl (hb hby at_261) rfl ?_
            exact k9)
        have b142 : (own_v3 ps130 len).toInt = (own_v3 ps130 len).toInt := by rfl
        have pre143 : ∀ t, Steps p.tables e below (T136.setTop (mkF m 271 #[.val (.int p1), .val (.int p2), .val (.int p3), .val (.int p4), .val (.long q5), .second, .val (.int len), .val (.int (0 : Int32)), .val (.ref b104), .val (.ref b117), .val (.int (own_v3 (0 : Int32) len)), .val (.int len), .val (.int k), .val (.int (0 : Int32)), .val (.int (own_v3 ps130 len)), .val (.int (own_v3 ps130 len))] [(.int (1 : Int32))])) t → Steps p.tables e below (s₁.setTop (entryFrame m #[(.int p1), (.int p2), (.int p3), (.int p4), (.long q5)] maxLocals)) t := fun t9 k9 => pre141 t9 (by
            show Steps p.tables e below (T136.setTop (mkF m 263 #[.val (.int p1), .val (.int p2), .val (.int p3), .val (.int p4), .val (.long q5), .second, .val (.int len), .val (.int (0 : Int32)), .val (.ref b104), .val (.ref b117), .val (.int (own_v3 (0 : Int32) len)), .val (.int len), .val (.int k), .val (.int (0 : Int32)), .val (.int (own_v3 ps130 len)), .val (.int (own_v3 ps130 len))] [(.int (own_v3 ps130 len)), (.int (own_v3 ps130 len))])) _
            refine XS.icmpNo X136.here hx rfl (hb hby at_263) rfl (own_ne_f (a := (own_v3 ps130 len).toInt) (b := (own_v3 ps130 len).toInt) rfl rfl b142) ?_
            show Steps p.tables e below (T136.setTop (mkF m 266 #[.val (.int p1), .val (.int p2), .val (.int p3), .val (.int p4), .val (.long q5), .second, .val (.int len), .val (.int (0 : Int32)), .val (.ref b104), .val (.ref b117), .val (.int (own_v3 (0 : Int32) len)), .val (.int len), .val (.int k), .val (.int (0 : Int32)), .val (.int (own_v3 ps130 len)), .val (.int (own_v3 ps130 len))] [])) _
            refine XS.iconst X136.here hx rfl (hb hby at_266) ?_
            show Steps p.tables e below (T136.setTop (mkF m 267 #[.val (.int p1), .val (.int p2), .val (.int p3), .val (.int p4), .val (.long q5), .second, .val (.int len), .val (.int (0 : Int32)), .val (.ref b104), .val (.ref b117), .val (.int (own_v3 (0 : Int32) len)), .val (.int len), .val (.int k), .val (.int (0 : Int32)), .val (.int (own_v3 ps130 len)), .val (.int (own_v3 ps130 len))] [(.int (1 : Int32))])) _
            refine XS.goto X136.here hx rfl (pc0 := 267) (pc' := 271) rfl (hb hby at_267) (by decide) (by decide) ?_
            exact k9)
        obtain ⟨fs, hr, hrun, hended, hW, hsame⟩ := X136.leave (v := some (.int (1 : Int32))) (fun h => by rw [Bd.returns] at h; cases h)
        refine ⟨_, _, pre143 _ ?_, hrun, hended, _, _, rfl, ?_, ⟨_, rfl⟩, hW, hsame.mono (by decide) (by decide)⟩
        · show Steps p.tables e below (T136.setTop (mkF m 271 #[.val (.int p1), .val (.int p2), .val (.int p3), .val (.int p4), .val (.long q5), .second, .val (.int len), .val (.int (0 : Int32)), .val (.ref b104), .val (.ref b117), .val (.int (own_v3 (0 : Int32) len)), .val (.int len), .val (.int k), .val (.int (0 : Int32)), .val (.int (own_v3 ps130 len)), .val (.int (own_v3 ps130 len))] [(.int (1 : Int32))])) _
          exact retN X136 hx (t := .boolean) Bd.returns (by simp) (hb hby at_271) hr
        · show Q0 Z p1 p2 p3 p4 q5 h0 n0 _ T136.heap _
          rw [e136]
          exact ⟨rfl, N136⟩
      · have hpk : ps130.toInt = k.toInt + 0 := by rw [hps130]; exact own_at_s _ _ (by assumption)
        obtain ⟨cq144, kq144, q144a, q144b, q144c⟩ := isOf hZ rfl E130x
        obtain ⟨_, _, ⟨T144, L144, k144, n144⟩, -, X144, ⟨Lc144, hQ144, l144, y144, z144⟩, st144⟩ := X130.virtualBack hx (y := (⟨"com/example/pesquisa/pesquisa/index/ByteSource", "hasMore", "()Z"⟩ : MethodName)) (z := (⟨"com/example/pesquisa/pesquisa/index/ByteSource", "hasMore", "()Z"⟩ : MethodName)) hown (mvT hZ (hw _ (List.mem_of_getElem? (i := 16) rfl))) (mvT hZ (hw _ (List.mem_of_getElem? (i := 17) rfl))) (notFace_of_selects (args := #[]) (mvT hZ (hw _ (List.mem_of_getElem? (i := 19) rfl)))) (mvT hZ (hw _ (List.mem_of_getElem? (i := 19) rfl))) (mvT hZ (hw _ (List.mem_of_getElem? (i := 18) rfl))) (by decide) (backOf (W := 0) (rm3 l Z a0 hw [] b117 len ps130 T130.heap n0 Z130 Fe130 Fp130) hZ (hw _ (List.mem_of_getElem? (i := 20) rfl)) (hw _ (List.mem_of_getElem? (i := 5) rfl)) (by decide) (by decide)) q144a q144c (g := (mkF m 230 #[.val (.int p1), .val (.int p2), .val (.int p3), .val (.int p4), .val (.long q5), .second, .val (.int len), .val (.int (0 : Int32)), .val (.ref b104), .val (.ref b117), .val (.int (own_v3 (0 : Int32) len)), .val (.int len), .val (.int k), .val (.int k), .unset, .unset] [(.ref b117)])) rfl (by rw [hml]; rfl) (Steps.refl _) (argsL := []) (rest := []) (lenOf pd_0_1 rfl) rfl (by show 2 * 0 + _ ≤ _; exact Nat.le_of_eq rfl) (hb hby at_230) (fun _ _ => ⟨rfl, rfl, (by decide : 2 + 0 ≤ _), (by decide : 9 + 0 ≤ _)⟩)
        dsimp only [Pt.U, Pt.locs, Pt.cells, Pt.slots] at X144 l144 y144 z144 st144 hQ144
        subst l144 y144 z144
        obtain ⟨hv144, N144q, e144⟩ := hQ144
        subst hv144
        have N144 := Fr.app N130 N144q
        obtain ⟨cq145, kq145, q145a, q145b, q145c⟩ := isOf hZ e144 E130x
        obtain ⟨_, _, ⟨T145, L145, k145, n145⟩, -, X145, ⟨Lc145, hQ145, l145, y145, z145⟩, st145⟩ := X144.virtualBack hx (y := (⟨"com/example/pesquisa/pesquisa/index/ByteSource", "hasMore", "()Z"⟩ : MethodName)) (z := (⟨"com/example/pesquisa/pesquisa/index/ByteSource", "hasMore", "()Z"⟩ : MethodName)) hown (mvT hZ (hw _ (List.mem_of_getElem? (i := 16) rfl))) (mvT hZ (hw _ (List.mem_of_getElem? (i := 17) rfl))) (notFace_of_selects (args := #[]) (mvT hZ (hw _ (List.mem_of_getElem? (i := 19) rfl)))) (mvT hZ (hw _ (List.mem_of_getElem? (i := 19) rfl))) (mvT hZ (hw _ (List.mem_of_getElem? (i := 18) rfl))) (by decide) (backOf (W := 0) (rm3 l Z a0 hw [] b117 len ps130 T130.heap n0 Z130 Fe130 Fp130) hZ (hw _ (List.mem_of_getElem? (i := 20) rfl)) (hw _ (List.mem_of_getElem? (i := 5) rfl)) (by decide) (by decide)) q145a q145c (g := (mkF m 237 #[.val (.int p1), .val (.int p2), .val (.int p3), .val (.int p4), .val (.long q5), .second, .val (.int len), .val (.int (0 : Int32)), .val (.ref b104), .val (.ref b117), .val (.int (own_v3 (0 : Int32) len)), .val (.int len), .val (.int k), .val (.int k), .val (.int (own_v3 ps130 len)), .unset] [(.ref b117)])) rfl (by rw [hml]; rfl) (Steps.refl _) (argsL := []) (rest := []) (lenOf pd_0_1 rfl) rfl (by show 2 * 0 + _ ≤ _; exact Nat.le_of_eq rfl) (hb hby at_237) (fun _ _ => ⟨rfl, e144, (by decide : 2 + 0 ≤ _), (by decide : 9 + 0 ≤ _)⟩)
        dsimp only [Pt.U, Pt.locs, Pt.cells, Pt.slots] at X145 l145 y145 z145 st145 hQ145
        subst l145 y145 z145
        obtain ⟨hv145, N145q, e145⟩ := hQ145
        subst hv145
        have N145 := Fr.app N144 N145q
        have pre146 : ∀ t, Steps p.tables e below (T145.setTop (mkF m 248 #[.val (.int p1), .val (.int p2), .val (.int p3), .val (.int p4), .val (.long q5), .second, .val (.int len), .val (.int (0 : Int32)), .val (.ref b104), .val (.ref b117), .val (.int (own_v3 (0 : Int32) len)), .val (.int len), .val (.int k), .val (.int k), .val (.int (own_v3 ps130 len)), .val (.int (own_v3 ps130 len))] [(.int len), (.int k), (.int (own_v3 ps130 len))])) t → Steps p.tables e below (s₁.setTop (entryFrame m #[(.int p1), (.int p2), (.int p3), (.int p4), (.long q5)] maxLocals)) t := fun t9 k9 => pre133 t9 (by
            show Steps p.tables e below (T130.setTop (mkF m 205 #[.val (.int p1), .val (.int p2), .val (.int p3), .val (.int p4), .val (.long q5), .second, .val (.int len), .val (.int (0 : Int32)), .val (.ref b104), .val (.ref b117), .val (.int (own_v3 (0 : Int32) len)), .val (.int len), .val (.int k), .unset, .unset, .unset] [(.int k)])) _
            refine XS.ifYes X130.here hx rfl (pc0 := 205) (pc' := 212) rfl (hb hby at_205) rfl ((if0 _ _).trans (own_ne_t (a := k.toInt) (b := (0 : Int)) rfl (by decide) b134)) (by decide) (by decide) ?_
            show Steps p.tables e below (T130.setTop (mkF m 212 #[.val (.int p1), .val (.int p2), .val (.int p3), .val (.int p4), .val (.long q5), .second, .val (.int len), .val (.int (0 : Int32)), .val (.ref b104), .val (.ref b117), .val (.int (own_v3 (0 : Int32) len)), .val (.int len), .val (.int k), .unset, .unset, .unset] [])) _
            refine XS.iload X130.here hx rfl (hb hby at_212) rfl ?_
            show Steps p.tables e below (T130.setTop (mkF m 214 #[.val (.int p1), .val (.int p2), .val (.int p3), .val (.int p4), .val (.long q5), .second, .val (.int len), .val (.int (0 : Int32)), .val (.ref b104), .val (.ref b117), .val (.int (own_v3 (0 : Int32) len)), .val (.int len), .val (.int k), .unset, .unset, .unset] [(.int (0 : Int32))])) _
            refine XS.ifYes X130.here hx rfl (pc0 := 214) (pc' := 224) rfl (hb hby at_214) rfl ((if0 _ _).trans (own_eq_t (a := (0 : Int)) (b := (0 : Int)) (by decide) (by decide) (by decide))) (by decide) (by decide) ?_
            show Steps p.tables e below (T130.setTop (mkF m 224 #[.val (.int p1), .val (.int p2), .val (.int p3), .val (.int p4), .val (.long q5), .second, .val (.int len), .val (.int (0 : Int32)), .val (.ref b104), .val (.ref b117), .val (.int (own_v3 (0 : Int32) len)), .val (.int len), .val (.int k), .unset, .unset, .unset] [])) _
            refine XS.iload X130.here hx rfl (hb hby at_224) rfl ?_
            show Steps p.tables e below (T130.setTop (mkF m 226 #[.val (.int p1), .val (.int p2), .val (.int p3), .val (.int p4), .val (.long q5), .second, .val (.int len), .val (.int (0 : Int32)), .val (.ref b104), .val (.ref b117), .val (.int (own_v3 (0 : Int32) len)), .val (.int len), .val (.int k), .unset, .unset, .unset] [(.int k)])) _
            refine XS.istore X130.here hx rfl (hb hby at_226) rfl (l' := #[.val (.int p1), .val (.int p2), .val (.int p3), .val (.int p4), .val (.long q5), .second, .val (.int len), .val (.int (0 : Int32)), .val (.ref b104), .val (.ref b117), .val (.int (own_v3 (0 : Int32) len)), .val (.int len), .val (.int k), .val (.int k), .unset, .unset]) rfl ?_
            show Steps p.tables e below (T130.setTop (mkF m 228 #[.val (.int p1), .val (.int p2), .val (.int p3), .val (.int p4), .val (.long q5), .second, .val (.int len), .val (.int (0 : Int32)), .val (.ref b104), .val (.ref b117), .val (.int (own_v3 (0 : Int32) len)), .val (.int len), .val (.int k), .val (.int k), .unset, .unset] [])) _
            refine XS.aload X130.here hx rfl (hb hby at_228) rfl rfl ?_
            show Steps p.tables e below (T130.setTop (mkF m 230 #[.val (.int p1), .val (.int p2), .val (.int p3), .val (.int p4), .val (.long q5), .second, .val (.int len), .val (.int (0 : Int32)), .val (.ref b104), .val (.ref b117), .val (.int (own_v3 (0 : Int32) len)), .val (.int len), .val (.int k), .val (.int k), .unset, .unset] [(.ref b117)])) _
            refine st144.trans ?_
            show Steps p.tables e below (T144.setTop (mkF m 233 #[.val (.int p1), .val (.int p2), .val (.int p3), .val (.int p4), .val (.long q5), .second, .val (.int len), .val (.int (0 : Int32)), .val (.ref b104), .val (.ref b117), .val (.int (own_v3 (0 : Int32) len)), .val (.int len), .val (.int k), .val (.int k), .unset, .unset] [(.int (own_v3 ps130 len))])) _
            refine XS.istore X144.here hx rfl (hb hby at_233) rfl (l' := #[.val (.int p1), .val (.int p2), .val (.int p3), .val (.int p4), .val (.long q5), .second, .val (.int len), .val (.int (0 : Int32)), .val (.ref b104), .val (.ref b117), .val (.int (own_v3 (0 : Int32) len)), .val (.int len), .val (.int k), .val (.int k), .val (.int (own_v3 ps130 len)), .unset]) rfl ?_
            show Steps p.tables e below (T144.setTop (mkF m 235 #[.val (.int p1), .val (.int p2), .val (.int p3), .val (.int p4), .val (.long q5), .second, .val (.int len), .val (.int (0 : Int32)), .val (.ref b104), .val (.ref b117), .val (.int (own_v3 (0 : Int32) len)), .val (.int len), .val (.int k), .val (.int k), .val (.int (own_v3 ps130 len)), .unset] [])) _
            refine XS.aload X144.here hx rfl (hb hby at_235) rfl rfl ?_
            show Steps p.tables e below (T144.setTop (mkF m 237 #[.val (.int p1), .val (.int p2), .val (.int p3), .val (.int p4), .val (.long q5), .second, .val (.int len), .val (.int (0 : Int32)), .val (.ref b104), .val (.ref b117), .val (.int (own_v3 (0 : Int32) len)), .val (.int len), .val (.int k), .val (.int k), .val (.int (own_v3 ps130 len)), .unset] [(.ref b117)])) _
            refine st145.trans ?_
            show Steps p.tables e below (T145.setTop (mkF m 240 #[.val (.int p1), .val (.int p2), .val (.int p3), .val (.int p4), .val (.long q5), .second, .val (.int len), .val (.int (0 : Int32)), .val (.ref b104), .val (.ref b117), .val (.int (own_v3 (0 : Int32) len)), .val (.int len), .val (.int k), .val (.int k), .val (.int (own_v3 ps130 len)), .unset] [(.int (own_v3 ps130 len))])) _
            refine XS.istore X145.here hx rfl (hb hby at_240) rfl (l' := #[.val (.int p1), .val (.int p2), .val (.int p3), .val (.int p4), .val (.long q5), .second, .val (.int len), .val (.int (0 : Int32)), .val (.ref b104), .val (.ref b117), .val (.int (own_v3 (0 : Int32) len)), .val (.int len), .val (.int k), .val (.int k), .val (.int (own_v3 ps130 len)), .val (.int (own_v3 ps130 len))]) rfl ?_
            show Steps p.tables e below (T145.setTop (mkF m 242 #[.val (.int p1), .val (.int p2), .val (.int p3), .val (.int p4), .val (.long q5), .second, .val (.int len), .val (.int (0 : Int32)), .val (.ref b104), .val (.ref b117), .val (.int (own_v3 (0 : Int32) len)), .val (.int len), .val (.int k), .val (.int k), .val (.int (own_v3 ps130 len)), .val (.int (own_v3 ps130 len))] [])) _
            refine XS.iload X145.here hx rfl (hb hby at_242) rfl ?_
            show Steps p.tables e below (T145.setTop (mkF m 244 #[.val (.int p1), .val (.int p2), .val (.int p3), .val (.int p4), .val (.long q5), .second, .val (.int len), .val (.int (0 : Int32)), .val (.ref b104), .val (.ref b117), .val (.int (own_v3 (0 : Int32) len)), .val (.int len), .val (.int k), .val (.int k), .val (.int (own_v3 ps130 len)), .val (.int (own_v3 ps130 len))] [(.int (own_v3 ps130 len))])) _
            refine XS.iload X145.here hx rfl (hb hby at_244) rfl ?_
            show Steps p.tables e below (T145.setTop (mkF m 246 #[.val (.int p1), .val (.int p2), .val (.int p3), .val (.int p4), .val (.long q5), .second, .val (.int len), .val (.int (0 : Int32)), .val (.ref b104), .val (.ref b117), .val (.int (own_v3 (0 : Int32) len)), .val (.int len), .val (.int k), .val (.int k), .val (.int (own_v3 ps130 len)), .val (.int (own_v3 ps130 len))] [(.int k), (.int (own_v3 ps130 len))])) _
            refine XS.iload X145.here hx rfl (hb hby at_246) rfl ?_
            exact k9)
        by_cases b147 : k.toInt < len.toInt
        · have pre148 : ∀ t, Steps p.tables e below (T145.setTop (mkF m 256 #[.val (.int p1), .val (.int p2), .val (.int p3), .val (.int p4), .val (.long q5), .second, .val (.int len), .val (.int (0 : Int32)), .val (.ref b104), .val (.ref b117), .val (.int (own_v3 (0 : Int32) len)), .val (.int len), .val (.int k), .val (.int k), .val (.int (own_v3 ps130 len)), .val (.int (own_v3 ps130 len))] [(.int (1 : Int32)), (.int (own_v3 ps130 len))])) t → Steps p.tables e below (s₁.setTop (entryFrame m #[(.int p1), (.int p2), (.int p3), (.int p4), (.long q5)] maxLocals)) t := fun t9 k9 => pre146 t9 (by
              show Steps p.tables e below (T145.setTop (mkF m 248 #[.val (.int p1), .val (.int p2), .val (.int p3), .val (.int p4), .val (.long q5), .second, .val (.int len), .val (.int (0 : Int32)), .val (.ref b104), .val (.ref b117), .val (.int (own_v3 (0 : Int32) len)), .val (.int len), .val (.int k), .val (.int k), .val (.int (own_v3 ps130 len)), .val (.int (own_v3 ps130 len))] [(.int len), (.int k), (.int (own_v3 ps130 len))])) _
              refine XS.icmpNo X145.here hx rfl (hb hby at_248) rfl (own_ge_f (a := k.toInt) (b := len.toInt) rfl rfl b147) ?_
              show Steps p.tables e below (T145.setTop (mkF m 251 #[.val (.int p1), .val (.int p2), .val (.int p3), .val (.int p4), .val (.long q5), .second, .val (.int len), .val (.int (0 : Int32)), .val (.ref b104), .val (.ref b117), .val (.int (own_v3 (0 : Int32) len)), .val (.int len), .val (.int k), .val (.int k), .val (.int (own_v3 ps130 len)), .val (.int (own_v3 ps130 len))] [(.int (own_v3 ps130 len))])) _
              refine XS.iconst X145.here hx rfl (hb hby at_251) ?_
              show Steps p.tables e below (T145.setTop (mkF m 252 #[.val (.int p1), .val (.int p2), .val (.int p3), .val (.int p4), .val (.long q5), .second, .val (.int len), .val (.int (0 : Int32)), .val (.ref b104), .val (.ref b117), .val (.int (own_v3 (0 : Int32) len)), .val (.int len), .val (.int k), .val (.int k), .val (.int (own_v3 ps130 len)), .val (.int (own_v3 ps130 len))] [(.int (1 : Int32)), (.int (own_v3 ps130 len))])) _
              refine XS.goto X145.here hx rfl (pc0 := 252) (pc' := 256) rfl (hb hby at_252) (by decide) (by decide) ?_
              exact k9)
          have b149 : (own_v3 ps130 len).toInt = (1 : Int) := by (have h01 := own_v3_01 ps130 len; omega)
          have pre150 : ∀ t, Steps p.tables e below (T145.setTop (mkF m 263 #[.val (.int p1), .val (.int p2), .val (.int p3), .val (.int p4), .val (.long q5), .second, .val (.int len), .val (.int (0 : Int32)), .val (.ref b104), .val (.ref b117), .val (.int (own_v3 (0 : Int32) len)), .val (.int len), .val (.int k), .val (.int k), .val (.int (own_v3 ps130 len)), .val (.int (own_v3 ps130 len))] [(.int (own_v3 ps130 len)), (.int (own_v3 ps130 len))])) t → Steps p.tables e below (s₁.setTop (entryFrame m #[(.int p1), (.int p2), (.int p3), (.int p4), (.long q5)] maxLocals)) t := fun t9 k9 => pre148 t9 (by
              show Steps p.tables e below (T145.setTop (mkF m 256 #[.val (.int p1), .val (.int p2), .val (.int p3), .val (.int p4), .val (.long q5), .second, .val (.int len), .val (.int (0 : Int32)), .val (.ref b104), .val (.ref b117), .val (.int (own_v3 (0 : Int32) len)), .val (.int len), .val (.int k), .val (.int k), .val (.int (own_v3 ps130 len)), .val (.int (own_v3 ps130 len))] [(.int (1 : Int32)), (.int (own_v3 ps130 len))])) _
              refine XS.icmpNo X145.here hx rfl (hb hby at_256) rfl (own_ne_f (a := (own_v3 ps130 len).toInt) (b := (1 : Int)) rfl (by decide) b149) ?_
              show Steps p.tables e below (T145.setTop (mkF m 259 #[.val (.int p1), .val (.int p2), .val (.int p3), .val (.int p4), .val (.long q5), .second, .val (.int len), .val (.int (0 : Int32)), .val (.ref b104), .val (.ref b117), .val (.int (own_v3 (0 : Int32) len)), .val (.int len), .val (.int k), .val (.int k), .val (.int (own_v3 ps130 len)), .val (.int (own_v3 ps130 len))] [])) _
              refine XS.iload X145.here hx rfl (hb hby at_259) rfl ?_
              show Steps p.tables e below (T145.setTop (mkF m 261 #[.val (.int p1), .val (.int p2), .val (.int p3), .val (.int p4), .val (.long q5), .second, .val (.int len), .val (.int (0 : Int32)), .val (.ref b104), .val (.ref b117), .val (.int (own_v3 (0 : Int32) len)), .val (.int len), .val (.int k), .val (.int k), .val (.int (own_v3 ps130 len)), .val (.int (own_v3 ps130 len))] [(.int (own_v3 ps130 len))])) _
              refine XS.iload X145.here hx rfl (hb hby at_261) rfl ?_
              exact k9)
          have b151 : (own_v3 ps130 len).toInt = (own_v3 ps130 len).toInt := by rfl
          have pre152 : ∀ t, Steps p.tables e below (T145.setTop (mkF m 271 #[.val (.int p1), .val (.int p2), .val (.int p3), .val (.int p4), .val (.long q5), .second, .val (.int len), .val (.int (0 : Int32)), .val (.ref b104), .val (.ref b117), .val (.int (own_v3 (0 : Int32) len)), .val (.int len), .val (.int k), .val (.int k), .val (.int (own_v3 ps130 len)), .val (.int (own_v3 ps130 len))] [(.int (1 : Int32))])) t → Steps p.tables e below (s₁.setTop (entryFrame m #[(.int p1), (.int p2), (.int p3), (.int p4), (.long q5)] maxLocals)) t := fun t9 k9 => pre150 t9 (by
              show Steps p.tables e below (T145.setTop (mkF m 263 #[.val (.int p1), .val (.int p2), .val (.int p3), .val (.int p4), .val (.long q5), .second, .val (.int len), .val (.int (0 : Int32)), .val (.ref b104), .val (.ref b117), .val (.int (own_v3 (0 : Int32) len)), .val (.int len), .val (.int k), .val (.int k), .val (.int (own_v3 ps130 len)), .val (.int (own_v3 ps130 len))] [(.int (own_v3 ps130 len)), (.int (own_v3 ps130 len))])) _
              refine XS.icmpNo X145.here hx rfl (hb hby at_263) rfl (own_ne_f (a := (own_v3 ps130 len).toInt) (b := (own_v3 ps130 len).toInt) rfl rfl b151) ?_
              show Steps p.tables e below (T145.setTop (mkF m 266 #[.val (.int p1), .val (.int p2), .val (.int p3), .val (.int p4), .val (.long q5), .second, .val (.int len), .val (.int (0 : Int32)), .val (.ref b104), .val (.ref b117), .val (.int (own_v3 (0 : Int32) len)), .val (.int len), .val (.int k), .val (.int k), .val (.int (own_v3 ps130 len)), .val (.int (own_v3 ps130 len))] [])) _
              refine XS.iconst X145.here hx rfl (hb hby at_266) ?_
              show Steps p.tables e below (T145.setTop (mkF m 267 #[.val (.int p1), .val (.int p2), .val (.int p3), .val (.int p4), .val (.long q5), .second, .val (.int len), .val (.int (0 : Int32)), .val (.ref b104), .val (.ref b117), .val (.int (own_v3 (0 : Int32) len)), .val (.int len), .val (.int k), .val (.int k), .val (.int (own_v3 ps130 len)), .val (.int (own_v3 ps130 len))] [(.int (1 : Int32))])) _
              refine XS.goto X145.here hx rfl (pc0 := 267) (pc' := 271) rfl (hb hby at_267) (by decide) (by decide) ?_
              exact k9)
          obtain ⟨fs, hr, hrun, hended, hW, hsame⟩ := X145.leave (v := some (.int (1 : Int32))) (fun h => by rw [Bd.returns] at h; cases h)
          refine ⟨_, _, pre152 _ ?_, hrun, hended, _, _, rfl, ?_, ⟨_, rfl⟩, hW, hsame.mono (by decide) (by decide)⟩
          · show Steps p.tables e below (T145.setTop (mkF m 271 #[.val (.int p1), .val (.int p2), .val (.int p3), .val (.int p4), .val (.long q5), .second, .val (.int len), .val (.int (0 : Int32)), .val (.ref b104), .val (.ref b117), .val (.int (own_v3 (0 : Int32) len)), .val (.int len), .val (.int k), .val (.int k), .val (.int (own_v3 ps130 len)), .val (.int (own_v3 ps130 len))] [(.int (1 : Int32))])) _
            exact retN X145 hx (t := .boolean) Bd.returns (by simp) (hb hby at_271) hr
          · show Q0 Z p1 p2 p3 p4 q5 h0 n0 _ T145.heap _
            rw [e145]
            exact ⟨rfl, N145⟩
        · have pre153 : ∀ t, Steps p.tables e below (T145.setTop (mkF m 256 #[.val (.int p1), .val (.int p2), .val (.int p3), .val (.int p4), .val (.long q5), .second, .val (.int len), .val (.int (0 : Int32)), .val (.ref b104), .val (.ref b117), .val (.int (own_v3 (0 : Int32) len)), .val (.int len), .val (.int k), .val (.int k), .val (.int (own_v3 ps130 len)), .val (.int (own_v3 ps130 len))] [(.int (0 : Int32)), (.int (own_v3 ps130 len))])) t → Steps p.tables e below (s₁.setTop (entryFrame m #[(.int p1), (.int p2), (.int p3), (.int p4), (.long q5)] maxLocals)) t := fun t9 k9 => pre146 t9 (by
              show Steps p.tables e below (T145.setTop (mkF m 248 #[.val (.int p1), .val (.int p2), .val (.int p3), .val (.int p4), .val (.long q5), .second, .val (.int len), .val (.int (0 : Int32)), .val (.ref b104), .val (.ref b117), .val (.int (own_v3 (0 : Int32) len)), .val (.int len), .val (.int k), .val (.int k), .val (.int (own_v3 ps130 len)), .val (.int (own_v3 ps130 len))] [(.int len), (.int k), (.int (own_v3 ps130 len))])) _
              refine XS.icmpYes X145.here hx rfl (pc0 := 248) (pc' := 255) rfl (hb hby at_248) rfl (own_ge_t (a := k.toInt) (b := len.toInt) rfl rfl b147) (by decide) (by decide) ?_
              show Steps p.tables e below (T145.setTop (mkF m 255 #[.val (.int p1), .val (.int p2), .val (.int p3), .val (.int p4), .val (.long q5), .second, .val (.int len), .val (.int (0 : Int32)), .val (.ref b104), .val (.ref b117), .val (.int (own_v3 (0 : Int32) len)), .val (.int len), .val (.int k), .val (.int k), .val (.int (own_v3 ps130 len)), .val (.int (own_v3 ps130 len))] [(.int (own_v3 ps130 len))])) _
              refine XS.iconst X145.here hx rfl (hb hby at_255) ?_
              exact k9)
          have b154 : (own_v3 ps130 len).toInt = (0 : Int) := by (have h01 := own_v3_01 ps130 len; omega)
          have pre155 : ∀ t, Steps p.tables e below (T145.setTop (mkF m 263 #[.val (.int p1), .val (.int p2), .val (.int p3), .val (.int p4), .val (.long q5), .second, .val (.int len), .val (.int (0 : Int32)), .val (.ref b104), .val (.ref b117), .val (.int (own_v3 (0 : Int32) len)), .val (.int len), .val (.int k), .val (.int k), .val (.int (own_v3 ps130 len)), .val (.int (own_v3 ps130 len))] [(.int (own_v3 ps130 len)), (.int (own_v3 ps130 len))])) t → Steps p.tables e below (s₁.setTop (entryFrame m #[(.int p1), (.int p2), (.int p3), (.int p4), (.long q5)] maxLocals)) t := fun t9 k9 => pre153 t9 (by
              show Steps p.tables e below (T145.setTop (mkF m 256 #[.val (.int p1), .val (.int p2), .val (.int p3), .val (.int p4), .val (.long q5), .second, .val (.int len), .val (.int (0 : Int32)), .val (.ref b104), .val (.ref b117), .val (.int (own_v3 (0 : Int32) len)), .val (.int len), .val (.int k), .val (.int k), .val (.int (own_v3 ps130 len)), .val (.int (own_v3 ps130 len))] [(.int (0 : Int32)), (.int (own_v3 ps130 len))])) _
              refine XS.icmpNo X145.here hx rfl (hb hby at_256) rfl (own_ne_f (a := (own_v3 ps130 len).toInt) (b := (0 : Int)) rfl (by decide) b154) ?_
              show Steps p.tables e below (T145.setTop (mkF m 259 #[.val (.int p1), .val (.int p2), .val (.int p3), .val (.int p4), .val (.long q5), .second, .val (.int len), .val (.int (0 : Int32)), .val (.ref b104), .val (.ref b117), .val (.int (own_v3 (0 : Int32) len)), .val (.int len), .val (.int k), .val (.int k), .val (.int (own_v3 ps130 len)), .val (.int (own_v3 ps130 len))] [])) _
              refine XS.iload X145.here hx rfl (hb hby at_259) rfl ?_
              show Steps p.tables e below (T145.setTop (mkF m 261 #[.val (.int p1), .val (.int p2), .val (.int p3), .val (.int p4), .val (.long q5), .second, .val (.int len), .val (.int (0 : Int32)), .val (.ref b104), .val (.ref b117), .val (.int (own_v3 (0 : Int32) len)), .val (.int len), .val (.int k), .val (.int k), .val (.int (own_v3 ps130 len)), .val (.int (own_v3 ps130 len))] [(.int (own_v3 ps130 len))])) _
              refine XS.iload X145.here hx rfl (hb hby at_261) rfl ?_
              exact k9)
          have b156 : (own_v3 ps130 len).toInt = (own_v3 ps130 len).toInt := by rfl
          have pre157 : ∀ t, Steps p.tables e below (T145.setTop (mkF m 271 #[.val (.int p1), .val (.int p2), .val (.int p3), .val (.int p4), .val (.long q5), .second, .val (.int len), .val (.int (0 : Int32)), .val (.ref b104), .val (.ref b117), .val (.int (own_v3 (0 : Int32) len)), .val (.int len), .val (.int k), .val (.int k), .val (.int (own_v3 ps130 len)), .val (.int (own_v3 ps130 len))] [(.int (1 : Int32))])) t → Steps p.tables e below (s₁.setTop (entryFrame m #[(.int p1), (.int p2), (.int p3), (.int p4), (.long q5)] maxLocals)) t := fun t9 k9 => pre155 t9 (by
              show Steps p.tables e below (T145.setTop (mkF m 263 #[.val (.int p1), .val (.int p2), .val (.int p3), .val (.int p4), .val (.long q5), .second, .val (.int len), .val (.int (0 : Int32)), .val (.ref b104), .val (.ref b117), .val (.int (own_v3 (0 : Int32) len)), .val (.int len), .val (.int k), .val (.int k), .val (.int (own_v3 ps130 len)), .val (.int (own_v3 ps130 len))] [(.int (own_v3 ps130 len)), (.int (own_v3 ps130 len))])) _
              refine XS.icmpNo X145.here hx rfl (hb hby at_263) rfl (own_ne_f (a := (own_v3 ps130 len).toInt) (b := (own_v3 ps130 len).toInt) rfl rfl b156) ?_
              show Steps p.tables e below (T145.setTop (mkF m 266 #[.val (.int p1), .val (.int p2), .val (.int p3), .val (.int p4), .val (.long q5), .second, .val (.int len), .val (.int (0 : Int32)), .val (.ref b104), .val (.ref b117), .val (.int (own_v3 (0 : Int32) len)), .val (.int len), .val (.int k), .val (.int k), .val (.int (own_v3 ps130 len)), .val (.int (own_v3 ps130 len))] [])) _
              refine XS.iconst X145.here hx rfl (hb hby at_266) ?_
              show Steps p.tables e below (T145.setTop (mkF m 267 #[.val (.int p1), .val (.int p2), .val (.int p3), .val (.int p4), .val (.long q5), .second, .val (.int len), .val (.int (0 : Int32)), .val (.ref b104), .val (.ref b117), .val (.int (own_v3 (0 : Int32) len)), .val (.int len), .val (.int k), .val (.int k), .val (.int (own_v3 ps130 len)), .val (.int (own_v3 ps130 len))] [(.int (1 : Int32))])) _
              refine XS.goto X145.here hx rfl (pc0 := 267) (pc' := 271) rfl (hb hby at_267) (by decide) (by decide) ?_
              exact k9)
          obtain ⟨fs, hr, hrun, hended, hW, hsame⟩ := X145.leave (v := some (.int (1 : Int32))) (fun h => by rw [Bd.returns] at h; cases h)
          refine ⟨_, _, pre157 _ ?_, hrun, hended, _, _, rfl, ?_, ⟨_, rfl⟩, hW, hsame.mono (by decide) (by decide)⟩
          · show Steps p.tables e below (T145.setTop (mkF m 271 #[.val (.int p1), .val (.int p2), .val (.int p3), .val (.int p4), .val (.long q5), .second, .val (.int len), .val (.int (0 : Int32)), .val (.ref b104), .val (.ref b117), .val (.int (own_v3 (0 : Int32) len)), .val (.int len), .val (.int k), .val (.int k), .val (.int (own_v3 ps130 len)), .val (.int (own_v3 ps130 len))] [(.int (1 : Int32))])) _
            exact retN X145 hx (t := .boolean) Bd.returns (by simp) (hb hby at_271) hr
          · show Q0 Z p1 p2 p3 p4 q5 h0 n0 _ T145.heap _
            rw [e145]
            exact ⟨rfl, N145⟩
    · have pre158 : ∀ t, Steps p.tables e below (T123.setTop (mkF m 160 #[.val (.int p1), .val (.int p2), .val (.int p3), .val (.int p4), .val (.long q5), .second, .val (.int len), .val (.int (0 : Int32)), .val (.ref b104), .val (.ref b117), .val (.int (own_v3 (0 : Int32) len)), .unset, .unset, .unset, .unset, .unset] [(.int (0 : Int32)), (.int (own_v3 (0 : Int32) len))])) t → Steps p.tables e below (s₁.setTop (entryFrame m #[(.int p1), (.int p2), (.int p3), (.int p4), (.long q5)] maxLocals)) t := fun t9 k9 => pre124 t9 (by
          show Steps p.tables e below (T123.setTop (mkF m 152 #[.val (.int p1), .val (.int p2), .val (.int p3), .val (.int p4), .val (.long q5), .second, .val (.int len), .val (.int (0 : Int32)), .val (.ref b104), .val (.ref b117), .val (.int (own_v3 (0 : Int32) len)), .unset, .unset, .unset, .unset, .unset] [(.int len), (.int (own_v3 (0 : Int32) len))])) _
          refine XS.ifYes X123.here hx rfl (pc0 := 152) (pc' := 159) rfl (hb hby at_152) rfl ((if0 _ _).trans (own_le_t (a := len.toInt) (b := (0 : Int)) rfl (by decide) b125)) (by decide) (by decide) ?_
          show Steps p.tables e below (T123.setTop (mkF m 159 #[.val (.int p1), .val (.int p2), .val (.int p3), .val (.int p4), .val (.long q5), .second, .val (.int len), .val (.int (0 : Int32)), .val (.ref b104), .val (.ref b117), .val (.int (own_v3 (0 : Int32) len)), .unset, .unset, .unset, .unset, .unset] [(.int (own_v3 (0 : Int32) len))])) _
          refine XS.iconst X123.here hx rfl (hb hby at_159) ?_
          exact k9)
      have b159 : (own_v3 (0 : Int32) len).toInt = (0 : Int) := by (have h01 := own_v3_01 (0 : Int32) len; have h00 : (0 : Int32).toInt = 0 := (by decide); omega)
      have pre160 : ∀ t, Steps p.tables e below (T123.setTop (mkF m 188 #[.val (.int p1), .val (.int p2), .val (.int p3), .val (.int p4), .val (.long q5), .second, .val (.int len), .val (.int (0 : Int32)), .val (.ref b104), .val (.ref b117), .val (.int (own_v3 (0 : Int32) len)), .val (.int len), .unset, .unset, .unset, .unset] [(.int ((p2 &&& (2147483647 : Int32)) % (7 : Int32)))])) t → Steps p.tables e below (s₁.setTop (entryFrame m #[(.int p1), (.int p2), (.int p3), (.int p4), (.long q5)] maxLocals)) t := fun t9 k9 => pre158 t9 (by
          show Steps p.tables e below (T123.setTop (mkF m 160 #[.val (.int p1), .val (.int p2), .val (.int p3), .val (.int p4), .val (.long q5), .second, .val (.int len), .val (.int (0 : Int32)), .val (.ref b104), .val (.ref b117), .val (.int (own_v3 (0 : Int32) len)), .unset, .unset, .unset, .unset, .unset] [(.int (0 : Int32)), (.int (own_v3 (0 : Int32) len))])) _
          refine XS.icmpYes X123.here hx rfl (pc0 := 160) (pc' := 165) rfl (hb hby at_160) rfl (own_eq_t (a := (own_v3 (0 : Int32) len).toInt) (b := (0 : Int)) rfl (by decide) b159) (by decide) (by decide) ?_
          show Steps p.tables e below (T123.setTop (mkF m 165 #[.val (.int p1), .val (.int p2), .val (.int p3), .val (.int p4), .val (.long q5), .second, .val (.int len), .val (.int (0 : Int32)), .val (.ref b104), .val (.ref b117), .val (.int (own_v3 (0 : Int32) len)), .unset, .unset, .unset, .unset, .unset] [])) _
          refine XS.iload X123.here hx rfl (hb hby at_165) rfl ?_
          show Steps p.tables e below (T123.setTop (mkF m 167 #[.val (.int p1), .val (.int p2), .val (.int p3), .val (.int p4), .val (.long q5), .second, .val (.int len), .val (.int (0 : Int32)), .val (.ref b104), .val (.ref b117), .val (.int (own_v3 (0 : Int32) len)), .unset, .unset, .unset, .unset, .unset] [(.int (0 : Int32))])) _
          refine XS.ifYes X123.here hx rfl (pc0 := 167) (pc' := 177) rfl (hb hby at_167) rfl ((if0 _ _).trans (own_eq_t (a := (0 : Int)) (b := (0 : Int)) (by decide) (by decide) (by decide))) (by decide) (by decide) ?_
          show Steps p.tables e below (T123.setTop (mkF m 177 #[.val (.int p1), .val (.int p2), .val (.int p3), .val (.int p4), .val (.long q5), .second, .val (.int len), .val (.int (0 : Int32)), .val (.ref b104), .val (.ref b117), .val (.int (own_v3 (0 : Int32) len)), .unset, .unset, .unset, .unset, .unset] [])) _
          refine XS.iload X123.here hx rfl (hb hby at_177) rfl ?_
          show Steps p.tables e below (T123.setTop (mkF m 179 #[.val (.int p1), .val (.int p2), .val (.int p3), .val (.int p4), .val (.long q5), .second, .val (.int len), .val (.int (0 : Int32)), .val (.ref b104), .val (.ref b117), .val (.int (own_v3 (0 : Int32) len)), .unset, .unset, .unset, .unset, .unset] [(.int len)])) _
          refine XS.istore X123.here hx rfl (hb hby at_179) rfl (l' := #[.val (.int p1), .val (.int p2), .val (.int p3), .val (.int p4), .val (.long q5), .second, .val (.int len), .val (.int (0 : Int32)), .val (.ref b104), .val (.ref b117), .val (.int (own_v3 (0 : Int32) len)), .val (.int len), .unset, .unset, .unset, .unset]) rfl ?_
          show Steps p.tables e below (T123.setTop (mkF m 181 #[.val (.int p1), .val (.int p2), .val (.int p3), .val (.int p4), .val (.long q5), .second, .val (.int len), .val (.int (0 : Int32)), .val (.ref b104), .val (.ref b117), .val (.int (own_v3 (0 : Int32) len)), .val (.int len), .unset, .unset, .unset, .unset] [])) _
          refine XS.iloadN X123.here hx rfl (hb hby at_181) rfl ?_
          show Steps p.tables e below (T123.setTop (mkF m 182 #[.val (.int p1), .val (.int p2), .val (.int p3), .val (.int p4), .val (.long q5), .second, .val (.int len), .val (.int (0 : Int32)), .val (.ref b104), .val (.ref b117), .val (.int (own_v3 (0 : Int32) len)), .val (.int len), .unset, .unset, .unset, .unset] [(.int p2)])) _
          refine X123.ldcInt hx hown (mvT hZ (hw _ (List.mem_of_getElem? (i := 0) rfl))) (g := (mkF m 182 #[.val (.int p1), .val (.int p2), .val (.int p3), .val (.int p4), .val (.long q5), .second, .val (.int len), .val (.int (0 : Int32)), .val (.ref b104), .val (.ref b117), .val (.int (own_v3 (0 : Int32) len)), .val (.int len), .unset, .unset, .unset, .unset] [(.int p2)])) rfl (hb hby at_182) _ ?_
          show Steps p.tables e below (T123.setTop (mkF m 184 #[.val (.int p1), .val (.int p2), .val (.int p3), .val (.int p4), .val (.long q5), .second, .val (.int len), .val (.int (0 : Int32)), .val (.ref b104), .val (.ref b117), .val (.int (own_v3 (0 : Int32) len)), .val (.int len), .unset, .unset, .unset, .unset] [(.int (2147483647 : Int32)), (.int p2)])) _
          refine XS.iand X123.here hx rfl (hb hby at_184) rfl ?_
          show Steps p.tables e below (T123.setTop (mkF m 185 #[.val (.int p1), .val (.int p2), .val (.int p3), .val (.int p4), .val (.long q5), .second, .val (.int len), .val (.int (0 : Int32)), .val (.ref b104), .val (.ref b117), .val (.int (own_v3 (0 : Int32) len)), .val (.int len), .unset, .unset, .unset, .unset] [(.int (p2 &&& (2147483647 : Int32)))])) _
          refine XS.bipush X123.here hx rfl (hb hby at_185) ?_
          show Steps p.tables e below (T123.setTop (mkF m 187 #[.val (.int p1), .val (.int p2), .val (.int p3), .val (.int p4), .val (.long q5), .second, .val (.int len), .val (.int (0 : Int32)), .val (.ref b104), .val (.ref b117), .val (.int (own_v3 (0 : Int32) len)), .val (.int len), .unset, .unset, .unset, .unset] [(.int (7 : Int32)), (.int (p2 &&& (2147483647 : Int32)))])) _
          refine iremM X123 hx rfl (hb hby at_187) rfl (by decide) ?_
          exact k9)
      obtain ⟨rd, h_rd⟩ : ∃ z, ((p2 &&& (2147483647 : Int32)) % (7 : Int32)) = z := ⟨_, rfl⟩
      rw [h_rd] at pre160 hr3
      clear hr2
      obtain ⟨_, _, ⟨T161, L161, k161, n161⟩, -, X161, ⟨Lc161, hQ161, l161, y161, z161⟩, st161⟩ := Jvm.LawKit.callS X123 hx (y := (⟨"java/lang/Math", "min", "(II)I"⟩ : MethodName)) hown (mvT hZ (hw _ (List.mem_of_getElem? (i := 23) rfl))) (mvT hZ (hw _ (List.mem_of_getElem? (i := 24) rfl))) (mvT hZ (hw _ (List.mem_of_getElem? (i := 25) rfl))) (mvT hZ (hw _ (List.mem_of_getElem? (i := 26) rfl))) (by decide) (backOf (W := 0) (rm4 l Z a0 hw [] rd len T120.heap n0 Z120 ) hZ (hw _ (List.mem_of_getElem? (i := 26) rfl)) (hw _ (List.mem_of_getElem? (i := 25) rfl)) (by decide) (by decide)) (g := (mkF m 190 #[.val (.int p1), .val (.int p2), .val (.int p3), .val (.int p4), .val (.long q5), .second, .val (.int len), .val (.int (0 : Int32)), .val (.ref b104), .val (.ref b117), .val (.int (own_v3 (0 : Int32) len)), .val (.int len), .unset, .unset, .unset, .unset] [(.int len), (.int rd)])) rfl (by rw [hml]; rfl) (argsL := [(.int rd), (.int len)]) (rest := []) (lenOf pd_0_2 rfl) rfl (by show 2 * 0 + _ ≤ _; exact Nat.le_of_eq rfl) (hb hby at_190) (fun _ _ => ⟨rfl, e123, (by decide : 2 + 0 ≤ _), (by decide : 9 + 0 ≤ _)⟩)
      dsimp only [Pt.U, Pt.locs, Pt.cells, Pt.slots] at X161 l161 y161 z161 st161 hQ161
      subst l161 y161 z161
      obtain ⟨hv161, N161q, e161⟩ := hQ161
      have hmin := own_v4_s rd len
      obtain ⟨k, h_k⟩ : ∃ z, (own_v4 rd len) = z := ⟨_, rfl⟩
      rw [h_k] at hmin hv161
      have hkl := c_i2l k
      have hk1 := own_add1 k (by omega)
      subst hv161
      have N161 := Fr.app N123 N161q
      obtain ⟨cq162, kq162, q162a, q162b, q162c⟩ := isOf hZ e161 E120x
      obtain ⟨_, _, ⟨T162, L162, k162, n162⟩, -, X162, ⟨Lc162, hQ162, l162, y162, z162⟩, st162⟩ := X161.virtualBack hx (y := (⟨"com/example/pesquisa/pesquisa/index/ByteSource", "skipNumbers", "(J)V"⟩ : MethodName)) (z := (⟨"com/example/pesquisa/pesquisa/index/ByteSource", "skipNumbers", "(J)V"⟩ : MethodName)) hown (mvT hZ (hw _ (List.mem_of_getElem? (i := 27) rfl))) (mvT hZ (hw _ (List.mem_of_getElem? (i := 28) rfl))) (notFace_of_selects (args := #[]) (mvT hZ (hw _ (List.mem_of_getElem? (i := 30) rfl)))) (mvT hZ (hw _ (List.mem_of_getElem? (i := 30) rfl))) (mvT hZ (hw _ (List.mem_of_getElem? (i := 29) rfl))) (by decide) (backOf (W := 0) (rm5 l Z a0 hw [] b117 (k.toInt64) b104 cl len 0 T120.heap n0 Z120 E120x F120_bytes F120_end F120_position g_b117 Ak121 ne118 hall hbits (Or.inl ⟨rfl, hbit0⟩) (by omega) (by omega) (by omega)) hZ (hw _ (List.mem_of_getElem? (i := 31) rfl)) (hw _ (List.mem_of_getElem? (i := 5) rfl)) (by decide) (by decide)) q162a q162c (g := (mkF m 200 #[.val (.int p1), .val (.int p2), .val (.int p3), .val (.int p4), .val (.long q5), .second, .val (.int len), .val (.int (0 : Int32)), .val (.ref b104), .val (.ref b117), .val (.int (own_v3 (0 : Int32) len)), .val (.int len), .val (.int k), .unset, .unset, .unset] [(.long (k.toInt64)), (.ref b117)])) rfl (by rw [hml]; rfl) (Steps.refl _) (argsL := [(.long (k.toInt64))]) (rest := []) (lenOf pd_0_3 rfl) rfl (by show 2 * 0 + _ ≤ _; exact Nat.le_of_eq rfl) (hb hby at_200) (fun _ _ => ⟨rfl, e161, (by decide : 2 + 0 ≤ _), (by decide : 9 + 0 ≤ _)⟩)
      dsimp only [Pt.U, Pt.locs, Pt.cells, Pt.slots] at X162 l162 y162 z162 st162 hQ162
      subst l162 y162 z162
      obtain ⟨ps162, hv162, N162q, K162, E162x, Fb162, Fe162, Fp162, hps162⟩ := hQ162
      subst hv162
      have N162 := Fr.app N161 N162q
      have Ak163 := own_arr_keep Ak121 K162 (ninS ne118 nin0)
      have Ek164 := E120x.keep K162
      have KK162 := KK120.trans K162 (allS (Or.inr sz_b117) all0)
      have Z162 : n0 ≤ T162.heap.size := Nat.le_trans Z120 K162.1
      rw [c_i2l] at hps162
      have pre165 : ∀ t, Steps p.tables e below (T162.setTop (mkF m 205 #[.val (.int p1), .val (.int p2), .val (.int p3), .val (.int p4), .val (.long q5), .second, .val (.int len), .val (.int (0 : Int32)), .val (.ref b104), .val (.ref b117), .val (.int (own_v3 (0 : Int32) len)), .val (.int len), .val (.int k), .unset, .unset, .unset] [(.int k)])) t → Steps p.tables e below (s₁.setTop (entryFrame m #[(.int p1), (.int p2), (.int p3), (.int p4), (.long q5)] maxLocals)) t := fun t9 k9 => pre160 t9 (by
          show Steps p.tables e below (T123.setTop (mkF m 188 #[.val (.int p1), .val (.int p2), .val (.int p3), .val (.int p4), .val (.long q5), .second, .val (.int len), .val (.int (0 : Int32)), .val (.ref b104), .val (.ref b117), .val (.int (own_v3 (0 : Int32) len)), .val (.int len), .unset, .unset, .unset, .unset] [(.int rd)])) _
          refine XS.iload X123.here hx rfl (hb hby at_188) rfl ?_
          show Steps p.tables e below (T123.setTop (mkF m 190 #[.val (.int p1), .val (.int p2), .val (.int p3), .val (.int p4), .val (.long q5), .second, .val (.int len), .val (.int (0 : Int32)), .val (.ref b104), .val (.ref b117), .val (.int (own_v3 (0 : Int32) len)), .val (.int len), .unset, .unset, .unset, .unset] [(.int len), (.int rd)])) _
          refine st161 _ ?_
          show Steps p.tables e below (T161.setTop (mkF m 193 #[.val (.int p1), .val (.int p2), .val (.int p3), .val (.int p4), .val (.long q5), .second, .val (.int len), .val (.int (0 : Int32)), .val (.ref b104), .val (.ref b117), .val (.int (own_v3 (0 : Int32) len)), .val (.int len), .unset, .unset, .unset, .unset] [(.int k)])) _
          refine XS.istore X161.here hx rfl (hb hby at_193) rfl (l' := #[.val (.int p1), .val (.int p2), .val (.int p3), .val (.int p4), .val (.long q5), .second, .val (.int len), .val (.int (0 : Int32)), .val (.ref b104), .val (.ref b117), .val (.int (own_v3 (0 : Int32) len)), .val (.int len), .val (.int k), .unset, .unset, .unset]) rfl ?_
          show Steps p.tables e below (T161.setTop (mkF m 195 #[.val (.int p1), .val (.int p2), .val (.int p3), .val (.int p4), .val (.long q5), .second, .val (.int len), .val (.int (0 : Int32)), .val (.ref b104), .val (.ref b117), .val (.int (own_v3 (0 : Int32) len)), .val (.int len), .val (.int k), .unset, .unset, .unset] [])) _
          refine XS.aload X161.here hx rfl (hb hby at_195) rfl rfl ?_
          show Steps p.tables e below (T161.setTop (mkF m 197 #[.val (.int p1), .val (.int p2), .val (.int p3), .val (.int p4), .val (.long q5), .second, .val (.int len), .val (.int (0 : Int32)), .val (.ref b104), .val (.ref b117), .val (.int (own_v3 (0 : Int32) len)), .val (.int len), .val (.int k), .unset, .unset, .unset] [(.ref b117)])) _
          refine XS.iload X161.here hx rfl (hb hby at_197) rfl ?_
          show Steps p.tables e below (T161.setTop (mkF m 199 #[.val (.int p1), .val (.int p2), .val (.int p3), .val (.int p4), .val (.long q5), .second, .val (.int len), .val (.int (0 : Int32)), .val (.ref b104), .val (.ref b117), .val (.int (own_v3 (0 : Int32) len)), .val (.int len), .val (.int k), .unset, .unset, .unset] [(.int k), (.ref b117)])) _
          refine XS.i2l X161.here hx rfl (hb hby at_199) rfl ?_
          show Steps p.tables e below (T161.setTop (mkF m 200 #[.val (.int p1), .val (.int p2), .val (.int p3), .val (.int p4), .val (.long q5), .second, .val (.int len), .val (.int (0 : Int32)), .val (.ref b104), .val (.ref b117), .val (.int (own_v3 (0 : Int32) len)), .val (.int len), .val (.int k), .unset, .unset, .unset] [(.long (k.toInt64)), (.ref b117)])) _
          refine st162.trans ?_
          show Steps p.tables e below (T162.setTop (mkF m 203 #[.val (.int p1), .val (.int p2), .val (.int p3), .val (.int p4), .val (.long q5), .second, .val (.int len), .val (.int (0 : Int32)), .val (.ref b104), .val (.ref b117), .val (.int (own_v3 (0 : Int32) len)), .val (.int len), .val (.int k), .unset, .unset, .unset] [])) _
          refine XS.iload X162.here hx rfl (hb hby at_203) rfl ?_
          exact k9)
      have b166 : k.toInt = (0 : Int) := by omega
      have hpk : ps162.toInt = 0 := by rw [hps162, (by assumption : k.toInt = (0 : Int))]; exact own_at_0 _
      obtain ⟨cq167, kq167, q167a, q167b, q167c⟩ := isOf hZ rfl E162x
      obtain ⟨_, _, ⟨T167, L167, k167, n167⟩, -, X167, ⟨Lc167, hQ167, l167, y167, z167⟩, st167⟩ := X162.virtualBack hx (y := (⟨"com/example/pesquisa/pesquisa/index/ByteSource", "hasMore", "()Z"⟩ : MethodName)) (z := (⟨"com/example/pesquisa/pesquisa/index/ByteSource", "hasMore", "()Z"⟩ : MethodName)) hown (mvT hZ (hw _ (List.mem_of_getElem? (i := 16) rfl))) (mvT hZ (hw _ (List.mem_of_getElem? (i := 17) rfl))) (notFace_of_selects (args := #[]) (mvT hZ (hw _ (List.mem_of_getElem? (i := 19) rfl)))) (mvT hZ (hw _ (List.mem_of_getElem? (i := 19) rfl))) (mvT hZ (hw _ (List.mem_of_getElem? (i := 18) rfl))) (by decide) (backOf (W := 0) (rm3 l Z a0 hw [] b117 len ps162 T162.heap n0 Z162 Fe162 Fp162) hZ (hw _ (List.mem_of_getElem? (i := 20) rfl)) (hw _ (List.mem_of_getElem? (i := 5) rfl)) (by decide) (by decide)) q167a q167c (g := (mkF m 230 #[.val (.int p1), .val (.int p2), .val (.int p3), .val (.int p4), .val (.long q5), .second, .val (.int len), .val (.int (0 : Int32)), .val (.ref b104), .val (.ref b117), .val (.int (own_v3 (0 : Int32) len)), .val (.int len), .val (.int k), .val (.int (0 : Int32)), .unset, .unset] [(.ref b117)])) rfl (by rw [hml]; rfl) (Steps.refl _) (argsL := []) (rest := []) (lenOf pd_0_1 rfl) rfl (by show 2 * 0 + _ ≤ _; exact Nat.le_of_eq rfl) (hb hby at_230) (fun _ _ => ⟨rfl, rfl, (by decide : 2 + 0 ≤ _), (by decide : 9 + 0 ≤ _)⟩)
      dsimp only [Pt.U, Pt.locs, Pt.cells, Pt.slots] at X167 l167 y167 z167 st167 hQ167
      subst l167 y167 z167
      obtain ⟨hv167, N167q, e167⟩ := hQ167
      subst hv167
      have N167 := Fr.app N162 N167q
      obtain ⟨cq168, kq168, q168a, q168b, q168c⟩ := isOf hZ e167 E162x
      obtain ⟨_, _, ⟨T168, L168, k168, n168⟩, -, X168, ⟨Lc168, hQ168, l168, y168, z168⟩, st168⟩ := X167.virtualBack hx (y := (⟨"com/example/pesquisa/pesquisa/index/ByteSource", "hasMore", "()Z"⟩ : MethodName)) (z := (⟨"com/example/pesquisa/pesquisa/index/ByteSource", "hasMore", "()Z"⟩ : MethodName)) hown (mvT hZ (hw _ (List.mem_of_getElem? (i := 16) rfl))) (mvT hZ (hw _ (List.mem_of_getElem? (i := 17) rfl))) (notFace_of_selects (args := #[]) (mvT hZ (hw _ (List.mem_of_getElem? (i := 19) rfl)))) (mvT hZ (hw _ (List.mem_of_getElem? (i := 19) rfl))) (mvT hZ (hw _ (List.mem_of_getElem? (i := 18) rfl))) (by decide) (backOf (W := 0) (rm3 l Z a0 hw [] b117 len ps162 T162.heap n0 Z162 Fe162 Fp162) hZ (hw _ (List.mem_of_getElem? (i := 20) rfl)) (hw _ (List.mem_of_getElem? (i := 5) rfl)) (by decide) (by decide)) q168a q168c (g := (mkF m 237 #[.val (.int p1), .val (.int p2), .val (.int p3), .val (.int p4), .val (.long q5), .second, .val (.int len), .val (.int (0 : Int32)), .val (.ref b104), .val (.ref b117), .val (.int (own_v3 (0 : Int32) len)), .val (.int len), .val (.int k), .val (.int (0 : Int32)), .val (.int (own_v3 ps162 len)), .unset] [(.ref b117)])) rfl (by rw [hml]; rfl) (Steps.refl _) (argsL := []) (rest := []) (lenOf pd_0_1 rfl) rfl (by show 2 * 0 + _ ≤ _; exact Nat.le_of_eq rfl) (hb hby at_237) (fun _ _ => ⟨rfl, e167, (by decide : 2 + 0 ≤ _), (by decide : 9 + 0 ≤ _)⟩)
      dsimp only [Pt.U, Pt.locs, Pt.cells, Pt.slots] at X168 l168 y168 z168 st168 hQ168
      subst l168 y168 z168
      obtain ⟨hv168, N168q, e168⟩ := hQ168
      subst hv168
      have N168 := Fr.app N167 N168q
      have pre169 : ∀ t, Steps p.tables e below (T168.setTop (mkF m 248 #[.val (.int p1), .val (.int p2), .val (.int p3), .val (.int p4), .val (.long q5), .second, .val (.int len), .val (.int (0 : Int32)), .val (.ref b104), .val (.ref b117), .val (.int (own_v3 (0 : Int32) len)), .val (.int len), .val (.int k), .val (.int (0 : Int32)), .val (.int (own_v3 ps162 len)), .val (.int (own_v3 ps162 len))] [(.int len), (.int (0 : Int32)), (.int (own_v3 ps162 len))])) t → Steps p.tables e below (s₁.setTop (entryFrame m #[(.int p1), (.int p2), (.int p3), (.int p4), (.long q5)] maxLocals)) t := fun t9 k9 => pre165 t9 (by
          show Steps p.tables e below (T162.setTop (mkF m 205 #[.val (.int p1), .val (.int p2), .val (.int p3), .val (.int p4), .val (.long q5), .second, .val (.int len), .val (.int (0 : Int32)), .val (.ref b104), .val (.ref b117), .val (.int (own_v3 (0 : Int32) len)), .val (.int len), .val (.int k), .unset, .unset, .unset] [(.int k)])) _
          refine XS.ifNo X162.here hx rfl (hb hby at_205) rfl ((if0 _ _).trans (own_ne_f (a := k.toInt) (b := (0 : Int)) rfl (by decide) b166)) ?_
          show Steps p.tables e below (T162.setTop (mkF m 208 #[.val (.int p1), .val (.int p2), .val (.int p3), .val (.int p4), .val (.long q5), .second, .val (.int len), .val (.int (0 : Int32)), .val (.ref b104), .val (.ref b117), .val (.int (own_v3 (0 : Int32) len)), .val (.int len), .val (.int k), .unset, .unset, .unset] [])) _
          refine XS.iconst X162.here hx rfl (hb hby at_208) ?_
          show Steps p.tables e below (T162.setTop (mkF m 209 #[.val (.int p1), .val (.int p2), .val (.int p3), .val (.int p4), .val (.long q5), .second, .val (.int len), .val (.int (0 : Int32)), .val (.ref b104), .val (.ref b117), .val (.int (own_v3 (0 : Int32) len)), .val (.int len), .val (.int k), .unset, .unset, .unset] [(.int (0 : Int32))])) _
          refine XS.goto X162.here hx rfl (pc0 := 209) (pc' := 226) rfl (hb hby at_209) (by decide) (by decide) ?_
          show Steps p.tables e below (T162.setTop (mkF m 226 #[.val (.int p1), .val (.int p2), .val (.int p3), .val (.int p4), .val (.long q5), .second, .val (.int len), .val (.int (0 : Int32)), .val (.ref b104), .val (.ref b117), .val (.int (own_v3 (0 : Int32) len)), .val (.int len), .val (.int k), .unset, .unset, .unset] [(.int (0 : Int32))])) _
          refine XS.istore X162.here hx rfl (hb hby at_226) rfl (l' := #[.val (.int p1), .val (.int p2), .val (.int p3), .val (.int p4), .val (.long q5), .second, .val (.int len), .val (.int (0 : Int32)), .val (.ref b104), .val (.ref b117), .val (.int (own_v3 (0 : Int32) len)), .val (.int len), .val (.int k), .val (.int (0 : Int32)), .unset, .unset]) rfl ?_
          show Steps p.tables e below (T162.setTop (mkF m 228 #[.val (.int p1), .val (.int p2), .val (.int p3), .val (.int p4), .val (.long q5), .second, .val (.int len), .val (.int (0 : Int32)), .val (.ref b104), .val (.ref b117), .val (.int (own_v3 (0 : Int32) len)), .val (.int len), .val (.int k), .val (.int (0 : Int32)), .unset, .unset] [])) _
          refine XS.aload X162.here hx rfl (hb hby at_228) rfl rfl ?_
          show Steps p.tables e below (T162.setTop (mkF m 230 #[.val (.int p1), .val (.int p2), .val (.int p3), .val (.int p4), .val (.long q5), .second, .val (.int len), .val (.int (0 : Int32)), .val (.ref b104), .val (.ref b117), .val (.int (own_v3 (0 : Int32) len)), .val (.int len), .val (.int k), .val (.int (0 : Int32)), .unset, .unset] [(.ref b117)])) _
          refine st167.trans ?_
          show Steps p.tables e below (T167.setTop (mkF m 233 #[.val (.int p1), .val (.int p2), .val (.int p3), .val (.int p4), .val (.long q5), .second, .val (.int len), .val (.int (0 : Int32)), .val (.ref b104), .val (.ref b117), .val (.int (own_v3 (0 : Int32) len)), .val (.int len), .val (.int k), .val (.int (0 : Int32)), .unset, .unset] [(.int (own_v3 ps162 len))])) _
          refine XS.istore X167.here hx rfl (hb hby at_233) rfl (l' := #[.val (.int p1), .val (.int p2), .val (.int p3), .val (.int p4), .val (.long q5), .second, .val (.int len), .val (.int (0 : Int32)), .val (.ref b104), .val (.ref b117), .val (.int (own_v3 (0 : Int32) len)), .val (.int len), .val (.int k), .val (.int (0 : Int32)), .val (.int (own_v3 ps162 len)), .unset]) rfl ?_
          show Steps p.tables e below (T167.setTop (mkF m 235 #[.val (.int p1), .val (.int p2), .val (.int p3), .val (.int p4), .val (.long q5), .second, .val (.int len), .val (.int (0 : Int32)), .val (.ref b104), .val (.ref b117), .val (.int (own_v3 (0 : Int32) len)), .val (.int len), .val (.int k), .val (.int (0 : Int32)), .val (.int (own_v3 ps162 len)), .unset] [])) _
          refine XS.aload X167.here hx rfl (hb hby at_235) rfl rfl ?_
          show Steps p.tables e below (T167.setTop (mkF m 237 #[.val (.int p1), .val (.int p2), .val (.int p3), .val (.int p4), .val (.long q5), .second, .val (.int len), .val (.int (0 : Int32)), .val (.ref b104), .val (.ref b117), .val (.int (own_v3 (0 : Int32) len)), .val (.int len), .val (.int k), .val (.int (0 : Int32)), .val (.int (own_v3 ps162 len)), .unset] [(.ref b117)])) _
          refine st168.trans ?_
          show Steps p.tables e below (T168.setTop (mkF m 240 #[.val (.int p1), .val (.int p2), .val (.int p3), .val (.int p4), .val (.long q5), .second, .val (.int len), .val (.int (0 : Int32)), .val (.ref b104), .val (.ref b117), .val (.int (own_v3 (0 : Int32) len)), .val (.int len), .val (.int k), .val (.int (0 : Int32)), .val (.int (own_v3 ps162 len)), .unset] [(.int (own_v3 ps162 len))])) _
          refine XS.istore X168.here hx rfl (hb hby at_240) rfl (l' := #[.val (.int p1), .val (.int p2), .val (.int p3), .val (.int p4), .val (.long q5), .second, .val (.int len), .val (.int (0 : Int32)), .val (.ref b104), .val (.ref b117), .val (.int (own_v3 (0 : Int32) len)), .val (.int len), .val (.int k), .val (.int (0 : Int32)), .val (.int (own_v3 ps162 len)), .val (.int (own_v3 ps162 len))]) rfl ?_
          show Steps p.tables e below (T168.setTop (mkF m 242 #[.val (.int p1), .val (.int p2), .val (.int p3), .val (.int p4), .val (.long q5), .second, .val (.int len), .val (.int (0 : Int32)), .val (.ref b104), .val (.ref b117), .val (.int (own_v3 (0 : Int32) len)), .val (.int len), .val (.int k), .val (.int (0 : Int32)), .val (.int (own_v3 ps162 len)), .val (.int (own_v3 ps162 len))] [])) _
          refine XS.iload X168.here hx rfl (hb hby at_242) rfl ?_
          show Steps p.tables e below (T168.setTop (mkF m 244 #[.val (.int p1), .val (.int p2), .val (.int p3), .val (.int p4), .val (.long q5), .second, .val (.int len), .val (.int (0 : Int32)), .val (.ref b104), .val (.ref b117), .val (.int (own_v3 (0 : Int32) len)), .val (.int len), .val (.int k), .val (.int (0 : Int32)), .val (.int (own_v3 ps162 len)), .val (.int (own_v3 ps162 len))] [(.int (own_v3 ps162 len))])) _
          refine XS.iload X168.here hx rfl (hb hby at_244) rfl ?_
          show Steps p.tables e below (T168.setTop (mkF m 246 #[.val (.int p1), .val (.int p2), .val (.int p3), .val (.int p4), .val (.long q5), .second, .val (.int len), .val (.int (0 : Int32)), .val (.ref b104), .val (.ref b117), .val (.int (own_v3 (0 : Int32) len)), .val (.int len), .val (.int k), .val (.int (0 : Int32)), .val (.int (own_v3 ps162 len)), .val (.int (own_v3 ps162 len))] [(.int (0 : Int32)), (.int (own_v3 ps162 len))])) _
          refine XS.iload X168.here hx rfl (hb hby at_246) rfl ?_
          exact k9)
      have b170 : ¬ ((0 : Int) < len.toInt) := by omega
      have pre171 : ∀ t, Steps p.tables e below (T168.setTop (mkF m 256 #[.val (.int p1), .val (.int p2), .val (.int p3), .val (.int p4), .val (.long q5), .second, .val (.int len), .val (.int (0 : Int32)), .val (.ref b104), .val (.ref b117), .val (.int (own_v3 (0 : Int32) len)), .val (.int len), .val (.int k), .val (.int (0 : Int32)), .val (.int (own_v3 ps162 len)), .val (.int (own_v3 ps162 len))] [(.int (0 : Int32)), (.int (own_v3 ps162 len))])) t → Steps p.tables e below (s₁.setTop (entryFrame m #[(.int p1), (.int p2), (.int p3), (.int p4), (.long q5)] maxLocals)) t := fun t9 k9 => pre169 t9 (by
          show Steps p.tables e below (T168.setTop (mkF m 248 #[.val (.int p1), .val (.int p2), .val (.int p3), .val (.int p4), .val (.long q5), .second, .val (.int len), .val (.int (0 : Int32)), .val (.ref b104), .val (.ref b117), .val (.int (own_v3 (0 : Int32) len)), .val (.int len), .val (.int k), .val (.int (0 : Int32)), .val (.int (own_v3 ps162 len)), .val (.int (own_v3 ps162 len))] [(.int len), (.int (0 : Int32)), (.int (own_v3 ps162 len))])) _
          refine XS.icmpYes X168.here hx rfl (pc0 := 248) (pc' := 255) rfl (hb hby at_248) rfl (own_ge_t (a := (0 : Int)) (b := len.toInt) (by decide) rfl b170) (by decide) (by decide) ?_
          show Steps p.tables e below (T168.setTop (mkF m 255 #[.val (.int p1), .val (.int p2), .val (.int p3), .val (.int p4), .val (.long q5), .second, .val (.int len), .val (.int (0 : Int32)), .val (.ref b104), .val (.ref b117), .val (.int (own_v3 (0 : Int32) len)), .val (.int len), .val (.int k), .val (.int (0 : Int32)), .val (.int (own_v3 ps162 len)), .val (.int (own_v3 ps162 len))] [(.int (own_v3 ps162 len))])) _
          refine XS.iconst X168.here hx rfl (hb hby at_255) ?_
          exact k9)
      have b172 : (own_v3 ps162 len).toInt = (0 : Int) := by (have h01 := own_v3_01 ps162 len; omega)
      have pre173 : ∀ t, Steps p.tables e below (T168.setTop (mkF m 263 #[.val (.int p1), .val (.int p2), .val (.int p3), .val (.int p4), .val (.long q5), .second, .val (.int len), .val (.int (0 : Int32)), .val (.ref b104), .val (.ref b117), .val (.int (own_v3 (0 : Int32) len)), .val (.int len), .val (.int k), .val (.int (0 : Int32)), .val (.int (own_v3 ps162 len)), .val (.int (own_v3 ps162 len))] [(.int (own_v3 ps162 len)), (.int (own_v3 ps162 len))])) t → Steps p.tables e below (s₁.setTop (entryFrame m #[(.int p1), (.int p2), (.int p3), (.int p4), (.long q5)] maxLocals)) t := fun t9 k9 => pre171 t9 (by
          show Steps p.tables e below (T168.setTop (mkF m 256 #[.val (.int p1), .val (.int p2), .val (.int p3), .val (.int p4), .val (.long q5), .second, .val (.int len), .val (.int (0 : Int32)), .val (.ref b104), .val (.ref b117), .val (.int (own_v3 (0 : Int32) len)), .val (.int len), .val (.int k), .val (.int (0 : Int32)), .val (.int (own_v3 ps162 len)), .val (.int (own_v3 ps162 len))] [(.int (0 : Int32)), (.int (own_v3 ps162 len))])) _
          refine XS.icmpNo X168.here hx rfl (hb hby at_256) rfl (own_ne_f (a := (own_v3 ps162 len).toInt) (b := (0 : Int)) rfl (by decide) b172) ?_
          show Steps p.tables e below (T168.setTop (mkF m 259 #[.val (.int p1), .val (.int p2), .val (.int p3), .val (.int p4), .val (.long q5), .second, .val (.int len), .val (.int (0 : Int32)), .val (.ref b104), .val (.ref b117), .val (.int (own_v3 (0 : Int32) len)), .val (.int len), .val (.int k), .val (.int (0 : Int32)), .val (.int (own_v3 ps162 len)), .val (.int (own_v3 ps162 len))] [])) _
          refine XS.iload X168.here hx rfl (hb hby at_259) rfl ?_
          show Steps p.tables e below (T168.setTop (mkF m 261 #[.val (.int p1), .val (.int p2), .val (.int p3), .val (.int p4), .val (.long q5), .second, .val (.int len), .val (.int (0 : Int32)), .val (.ref b104), .val (.ref b117), .val (.int (own_v3 (0 : Int32) len)), .val (.int len), .val (.int k), .val (.int (0 : Int32)), .val (.int (own_v3 ps162 len)), .val (.int (own_v3 ps162 len))] [(.int (own_v3 ps162 len))])) _
          refine XS.iload X168.here hx rfl (hb hby at_261) rfl ?_
          exact k9)
      have b174 : (own_v3 ps162 len).toInt = (own_v3 ps162 len).toInt := by rfl
      have pre175 : ∀ t, Steps p.tables e below (T168.setTop (mkF m 271 #[.val (.int p1), .val (.int p2), .val (.int p3), .val (.int p4), .val (.long q5), .second, .val (.int len), .val (.int (0 : Int32)), .val (.ref b104), .val (.ref b117), .val (.int (own_v3 (0 : Int32) len)), .val (.int len), .val (.int k), .val (.int (0 : Int32)), .val (.int (own_v3 ps162 len)), .val (.int (own_v3 ps162 len))] [(.int (1 : Int32))])) t → Steps p.tables e below (s₁.setTop (entryFrame m #[(.int p1), (.int p2), (.int p3), (.int p4), (.long q5)] maxLocals)) t := fun t9 k9 => pre173 t9 (by
          show Steps p.tables e below (T168.setTop (mkF m 263 #[.val (.int p1), .val (.int p2), .val (.int p3), .val (.int p4), .val (.long q5), .second, .val (.int len), .val (.int (0 : Int32)), .val (.ref b104), .val (.ref b117), .val (.int (own_v3 (0 : Int32) len)), .val (.int len), .val (.int k), .val (.int (0 : Int32)), .val (.int (own_v3 ps162 len)), .val (.int (own_v3 ps162 len))] [(.int (own_v3 ps162 len)), (.int (own_v3 ps162 len))])) _
          refine XS.icmpNo X168.here hx rfl (hb hby at_263) rfl (own_ne_f (a := (own_v3 ps162 len).toInt) (b := (own_v3 ps162 len).toInt) rfl rfl b174) ?_
          show Steps p.tables e below (T168.setTop (mkF m 266 #[.val (.int p1), .val (.int p2), .val (.int p3), .val (.int p4), .val (.long q5), .second, .val (.int len), .val (.int (0 : Int32)), .val (.ref b104), .val (.ref b117), .val (.int (own_v3 (0 : Int32) len)), .val (.int len), .val (.int k), .val (.int (0 : Int32)), .val (.int (own_v3 ps162 len)), .val (.int (own_v3 ps162 len))] [])) _
          refine XS.iconst X168.here hx rfl (hb hby at_266) ?_
          show Steps p.tables e below (T168.setTop (mkF m 267 #[.val (.int p1), .val (.int p2), .val (.int p3), .val (.int p4), .val (.long q5), .second, .val (.int len), .val (.int (0 : Int32)), .val (.ref b104), .val (.ref b117), .val (.int (own_v3 (0 : Int32) len)), .val (.int len), .val (.int k), .val (.int (0 : Int32)), .val (.int (own_v3 ps162 len)), .val (.int (own_v3 ps162 len))] [(.int (1 : Int32))])) _
          refine XS.goto X168.here hx rfl (pc0 := 267) (pc' := 271) rfl (hb hby at_267) (by decide) (by decide) ?_
          exact k9)
      obtain ⟨fs, hr, hrun, hended, hW, hsame⟩ := X168.leave (v := some (.int (1 : Int32))) (fun h => by rw [Bd.returns] at h; cases h)
      refine ⟨_, _, pre175 _ ?_, hrun, hended, _, _, rfl, ?_, ⟨_, rfl⟩, hW, hsame.mono (by decide) (by decide)⟩
      · show Steps p.tables e below (T168.setTop (mkF m 271 #[.val (.int p1), .val (.int p2), .val (.int p3), .val (.int p4), .val (.long q5), .second, .val (.int len), .val (.int (0 : Int32)), .val (.ref b104), .val (.ref b117), .val (.int (own_v3 (0 : Int32) len)), .val (.int len), .val (.int k), .val (.int (0 : Int32)), .val (.int (own_v3 ps162 len)), .val (.int (own_v3 ps162 len))] [(.int (1 : Int32))])) _
        exact retN X168 hx (t := .boolean) Bd.returns (by simp) (hb hby at_271) hr
      · show Q0 Z p1 p2 p3 p4 q5 h0 n0 _ T168.heap _
        rw [e168]
        exact ⟨rfl, N168⟩
  · have pre176 : ∀ t, Steps p.tables e below (s₁.setTop (mkF m 18 #[.val (.int p1), .val (.int p2), .val (.int p3), .val (.int p4), .val (.long q5), .second, .val (.int len), .unset, .unset, .unset, .unset, .unset, .unset, .unset, .unset, .unset] [(.int (2 : Int32)), (.int len)])) t → Steps p.tables e below (s₁.setTop (entryFrame m #[(.int p1), (.int p2), (.int p3), (.int p4), (.long q5)] maxLocals)) t := fun t9 k9 => pre102 t9 (by
        show Steps p.tables e below (s₁.setTop (mkF m 12 #[.val (.int p1), .val (.int p2), .val (.int p3), .val (.int p4), .val (.long q5), .second, .val (.int len), .unset, .unset, .unset, .unset, .unset, .unset, .unset, .unset, .unset] [(.int (p3 &&& (1 : Int32)))])) _
        refine XS.ifNo X0.here hx rfl (hb hby at_12) rfl ((if0 _ _).trans (own_eq_f (a := (p3 &&& (1 : Int32)).toInt) (b := (0 : Int)) rfl (by decide) b103)) ?_
        show Steps p.tables e below (s₁.setTop (mkF m 15 #[.val (.int p1), .val (.int p2), .val (.int p3), .val (.int p4), .val (.long q5), .second, .val (.int len), .unset, .unset, .unset, .unset, .unset, .unset, .unset, .unset, .unset] [])) _
        refine XS.iload X0.here hx rfl (hb hby at_15) rfl ?_
        show Steps p.tables e below (s₁.setTop (mkF m 17 #[.val (.int p1), .val (.int p2), .val (.int p3), .val (.int p4), .val (.long q5), .second, .val (.int len), .unset, .unset, .unset, .unset, .unset, .unset, .unset, .unset, .unset] [(.int len)])) _
        refine XS.iconst X0.here hx rfl (hb hby at_17) ?_
        exact k9)
    by_cases b177 : len.toInt < (2 : Int)
    · obtain ⟨T178, h178, k178, X178, e178, E178, A178, st178⟩ := newP X0 hx hZ (hw _ (List.mem_of_getElem? (i := 1) rfl)) e0 (g := (mkF m 30 #[.val (.int p1), .val (.int p2), .val (.int p3), .val (.int p4), .val (.long q5), .second, .val (.int len), .val (.int (0 : Int32)), .unset, .unset, .unset, .unset, .unset, .unset, .unset, .unset] [(.int (6 : Int32))])) rfl (hb hby at_30) rfl (by decide) (cap := 6) (by decide) (by decide) (by decide) (by decide)
      obtain ⟨b178, g178⟩ : ∃ z, z = h0.size := ⟨_, rfl⟩
      rw [← g178] at A178 st178
      have g_b178 : n0 ≤ b178 := Nat.le_trans Z0 (Nat.le_of_eq g178.symm)
      have sz_b178 : h0.size ≤ b178 := Nat.le_trans (Keep.refl h0 []).1 (Nat.le_of_eq g178.symm)
      have V178 : Arv Z h178 b178 k178 .byte (6 : Int32) [(.int (0 : Int32)), (.int (0 : Int32)), (.int (0 : Int32)), (.int (0 : Int32)), (.int (0 : Int32)), (.int (0 : Int32))] (.int (0 : Int32)) := (Arv.new A178 (by decide)).pad (pad_rep [] (.int (0 : Int32)) 6)
      have K178 := (Keep.refl h0 []).ext E178
      have Z178 : n0 ≤ h178.size := Nat.le_trans Z0 E178.1
      obtain ⟨cl179, Ar179, q179, S179, M179, H179, G179⟩ := V178
      have hin179 : ¬ ((0 : Int32) < 0 ∨ cl179.slots.size ≤ ((0 : Int32)).toNatClampNeg) := inb_of S179 ⟨by decide, by decide⟩
      obtain ⟨T180, h180, X180, e180, W180, st180⟩ := stB X178 hx hZ e178 Ar179 (j := (0 : Int32)) hin179 (g := (mkF m 55 #[.val (.int p1), .val (.int p2), .val (.int p3), .val (.int p4), .val (.long q5), .second, .val (.int len), .val (.int (0 : Int32)), .val (.ref b178), .unset, .unset, .unset, .unset, .unset, .unset, .unset] [(.int (((p4 &&& (127 : Int32)) ||| (0 : Int32)).toInt8.toInt32)), (.int (0 : Int32)), (.ref b178)])) rfl rfl (hb hby at_55)
      have V180 : Arv Z h180 b178 k178 .byte (6 : Int32) [(.int (nar .byte (((p4 &&& (127 : Int32)) ||| (0 : Int32)).toInt8.toInt32))), (.int (0 : Int32)), (.int (0 : Int32)), (.int (0 : Int32)), (.int (0 : Int32)), (.int (0 : Int32))] (.int (0 : Int32)) := Arv.set Ar179 q179 S179 M179 H179 G179 (fits_nar_byte _) W180 0 rfl (Nat.le_of_ble_eq_true rfl)
      have N180 := Fr.snoc X180 N0 g_b178
      have K180 := K178.wr W180 (Or.inr sz_b178)
      have Z180 : n0 ≤ h180.size := (Nat.le_trans Z178 (Keep.of_wr W180).1)
      obtain ⟨cl181, Ar181, q181, S181, M181, H181, G181⟩ := V180
      have hin181 : ¬ ((1 : Int32) < 0 ∨ cl181.slots.size ≤ ((1 : Int32)).toNatClampNeg) := inb_of S181 ⟨by decide, by decide⟩
      obtain ⟨T182, h182, X182, e182, W182, st182⟩ := stB X180 hx hZ e180 Ar181 (j := (1 : Int32)) hin181 (g := (mkF m 67 #[.val (.int p1), .val (.int p2), .val (.int p3), .val (.int p4), .val (.long q5), .second, .val (.int len), .val (.int (0 : Int32)), .val (.ref b178), .unset, .unset, .unset, .unset, .unset, .unset, .unset] [(.int (((q5 &&& (127 : Int64)).toInt32).toInt8.toInt32)), (.int (1 : Int32)), (.ref b178)])) rfl rfl (hb hby at_67)
      have V182 : Arv Z h182 b178 k178 .byte (6 : Int32) [(.int (nar .byte (((p4 &&& (127 : Int32)) ||| (0 : Int32)).toInt8.toInt32))), (.int (nar .byte (((q5 &&& (127 : Int64)).toInt32).toInt8.toInt32))), (.int (0 : Int32)), (.int (0 : Int32)), (.int (0 : Int32)), (.int (0 : Int32))] (.int (0 : Int32)) := Arv.set Ar181 q181 S181 M181 H181 G181 (fits_nar_byte _) W182 1 rfl (Nat.le_of_ble_eq_true rfl)
      have N182 := Fr.snoc X182 N180 g_b178
      have K182 := K180.wr W182 (Or.inr sz_b178)
      have Z182 : n0 ≤ h182.size := (Nat.le_trans Z180 (Keep.of_wr W182).1)
      obtain ⟨cl183, Ar183, q183, S183, M183, H183, G183⟩ := V182
      have hin183 : ¬ ((2 : Int32) < 0 ∨ cl183.slots.size ≤ ((2 : Int32)).toNatClampNeg) := inb_of S183 ⟨by decide, by decide⟩
      obtain ⟨T184, h184, X184, e184, W184, st184⟩ := stB X182 hx hZ e182 Ar183 (j := (2 : Int32)) hin183 (g := (mkF m 82 #[.val (.int p1), .val (.int p2), .val (.int p3), .val (.int p4), .val (.long q5), .second, .val (.int len), .val (.int (0 : Int32)), .val (.ref b178), .unset, .unset, .unset, .unset, .unset, .unset, .unset] [(.int (((((q5.toUInt64 >>> ((8 : Int32) &&& 0x3f).toInt64.toUInt64).toInt64) &&& (127 : Int64)).toInt32).toInt8.toInt32)), (.int (2 : Int32)), (.ref b178)])) rfl rfl (hb hby at_82)
      have V184 : Arv Z h184 b178 k178 .byte (6 : Int32) [(.int (nar .byte (((p4 &&& (127 : Int32)) ||| (0 : Int32)).toInt8.toInt32))), (.int (nar .byte (((q5 &&& (127 : Int64)).toInt32).toInt8.toInt32))), (.int (nar .byte (((((q5.toUInt64 >>> ((8 : Int32) &&& 0x3f).toInt64.toUInt64).toInt64) &&& (127 : Int64)).toInt32).toInt8.toInt32))), (.int (0 : Int32)), (.int (0 : Int32)), (.int (0 : Int32))] (.int (0 : Int32)) := Arv.set Ar183 q183 S183 M183 H183 G183 (fits_nar_byte _) W184 2 rfl (Nat.le_of_ble_eq_true rfl)
      have N184 := Fr.snoc X184 N182 g_b178
      have K184 := K182.wr W184 (Or.inr sz_b178)
      have Z184 : n0 ≤ h184.size := (Nat.le_trans Z182 (Keep.of_wr W184).1)
      obtain ⟨cl185, Ar185, q185, S185, M185, H185, G185⟩ := V184
      have hin185 : ¬ ((3 : Int32) < 0 ∨ cl185.slots.size ≤ ((3 : Int32)).toNatClampNeg) := inb_of S185 ⟨by decide, by decide⟩
      obtain ⟨T186, h186, X186, e186, W186, st186⟩ := stB X184 hx hZ e184 Ar185 (j := (3 : Int32)) hin185 (g := (mkF m 97 #[.val (.int p1), .val (.int p2), .val (.int p3), .val (.int p4), .val (.long q5), .second, .val (.int len), .val (.int (0 : Int32)), .val (.ref b178), .unset, .unset, .unset, .unset, .unset, .unset, .unset] [(.int (((((q5.toUInt64 >>> ((16 : Int32) &&& 0x3f).toInt64.toUInt64).toInt64) &&& (127 : Int64)).toInt32).toInt8.toInt32)), (.int (3 : Int32)), (.ref b178)])) rfl rfl (hb hby at_97)
      have V186 : Arv Z h186 b178 k178 .byte (6 : Int32) [(.int (nar .byte (((p4 &&& (127 : Int32)) ||| (0 : Int32)).toInt8.toInt32))), (.int (nar .byte (((q5 &&& (127 : Int64)).toInt32).toInt8.toInt32))), (.int (nar .byte (((((q5.toUInt64 >>> ((8 : Int32) &&& 0x3f).toInt64.toUInt64).toInt64) &&& (127 : Int64)).toInt32).toInt8.toInt32))), (.int (nar .byte (((((q5.toUInt64 >>> ((16 : Int32) &&& 0x3f).toInt64.toUInt64).toInt64) &&& (127 : Int64)).toInt32).toInt8.toInt32))), (.int (0 : Int32)), (.int (0 : Int32))] (.int (0 : Int32)) := Arv.set Ar185 q185 S185 M185 H185 G185 (fits_nar_byte _) W186 3 rfl (Nat.le_of_ble_eq_true rfl)
      have N186 := Fr.snoc X186 N184 g_b178
      have K186 := K184.wr W186 (Or.inr sz_b178)
      have Z186 : n0 ≤ h186.size := (Nat.le_trans Z184 (Keep.of_wr W186).1)
      obtain ⟨cl187, Ar187, q187, S187, M187, H187, G187⟩ := V186
      have hin187 : ¬ ((4 : Int32) < 0 ∨ cl187.slots.size ≤ ((4 : Int32)).toNatClampNeg) := inb_of S187 ⟨by decide, by decide⟩
      obtain ⟨T188, h188, X188, e188, W188, st188⟩ := stB X186 hx hZ e186 Ar187 (j := (4 : Int32)) hin187 (g := (mkF m 112 #[.val (.int p1), .val (.int p2), .val (.int p3), .val (.int p4), .val (.long q5), .second, .val (.int len), .val (.int (0 : Int32)), .val (.ref b178), .unset, .unset, .unset, .unset, .unset, .unset, .unset] [(.int (((((q5.toUInt64 >>> ((24 : Int32) &&& 0x3f).toInt64.toUInt64).toInt64) &&& (127 : Int64)).toInt32).toInt8.toInt32)), (.int (4 : Int32)), (.ref b178)])) rfl rfl (hb hby at_112)
      have V188 : Arv Z h188 b178 k178 .byte (6 : Int32) [(.int (nar .byte (((p4 &&& (127 : Int32)) ||| (0 : Int32)).toInt8.toInt32))), (.int (nar .byte (((q5 &&& (127 : Int64)).toInt32).toInt8.toInt32))), (.int (nar .byte (((((q5.toUInt64 >>> ((8 : Int32) &&& 0x3f).toInt64.toUInt64).toInt64) &&& (127 : Int64)).toInt32).toInt8.toInt32))), (.int (nar .byte (((((q5.toUInt64 >>> ((16 : Int32) &&& 0x3f).toInt64.toUInt64).toInt64) &&& (127 : Int64)).toInt32).toInt8.toInt32))), (.int (nar .byte (((((q5.toUInt64 >>> ((24 : Int32) &&& 0x3f).toInt64.toUInt64).toInt64) &&& (127 : Int64)).toInt32).toInt8.toInt32))), (.int (0 : Int32))] (.int (0 : Int32)) := Arv.set Ar187 q187 S187 M187 H187 G187 (fits_nar_byte _) W188 4 rfl (Nat.le_of_ble_eq_true rfl)
      have N188 := Fr.snoc X188 N186 g_b178
      have K188 := K186.wr W188 (Or.inr sz_b178)
      have Z188 : n0 ≤ h188.size := (Nat.le_trans Z186 (Keep.of_wr W188).1)
      obtain ⟨cl189, Ar189, q189, S189, M189, H189, G189⟩ := V188
      have hin189 : ¬ ((5 : Int32) < 0 ∨ cl189.slots.size ≤ ((5 : Int32)).toNatClampNeg) := inb_of S189 ⟨by decide, by decide⟩
      obtain ⟨T190, h190, X190, e190, W190, st190⟩ := stB X188 hx hZ e188 Ar189 (j := (5 : Int32)) hin189 (g := (mkF m 127 #[.val (.int p1), .val (.int p2), .val (.int p3), .val (.int p4), .val (.long q5), .second, .val (.int len), .val (.int (0 : Int32)), .val (.ref b178), .unset, .unset, .unset, .unset, .unset, .unset, .unset] [(.int (((((q5.toUInt64 >>> ((32 : Int32) &&& 0x3f).toInt64.toUInt64).toInt64) &&& (127 : Int64)).toInt32).toInt8.toInt32)), (.int (5 : Int32)), (.ref b178)])) rfl rfl (hb hby at_127)
      have V190 : Arv Z h190 b178 k178 .byte (6 : Int32) [(.int (nar .byte (((p4 &&& (127 : Int32)) ||| (0 : Int32)).toInt8.toInt32))), (.int (nar .byte (((q5 &&& (127 : Int64)).toInt32).toInt8.toInt32))), (.int (nar .byte (((((q5.toUInt64 >>> ((8 : Int32) &&& 0x3f).toInt64.toUInt64).toInt64) &&& (127 : Int64)).toInt32).toInt8.toInt32))), (.int (nar .byte (((((q5.toUInt64 >>> ((16 : Int32) &&& 0x3f).toInt64.toUInt64).toInt64) &&& (127 : Int64)).toInt32).toInt8.toInt32))), (.int (nar .byte (((((q5.toUInt64 >>> ((24 : Int32) &&& 0x3f).toInt64.toUInt64).toInt64) &&& (127 : Int64)).toInt32).toInt8.toInt32))), (.int (nar .byte (((((q5.toUInt64 >>> ((32 : Int32) &&& 0x3f).toInt64.toUInt64).toInt64) &&& (127 : Int64)).toInt32).toInt8.toInt32)))] (.int (0 : Int32)) := Arv.set Ar189 q189 S189 M189 H189 G189 (fits_nar_byte _) W190 5 rfl (Nat.le_of_ble_eq_true rfl)
      have N190 := Fr.snoc X190 N188 g_b178
      have K190 := K188.wr W190 (Or.inr sz_b178)
      have Z190 : n0 ≤ h190.size := (Nat.le_trans Z188 (Keep.of_wr W190).1)
      obtain ⟨cl, Ar, qA, SA, MA, HA, GA⟩ := V190
      obtain ⟨hall, hbits, hat0⟩ := own_all SA HA (own_bitL _) (own_bitL _) (own_bitL _) (own_bitL _) (own_bitL _)
      have hbit0 : ((atv cl 0) &&& (128 : Int32)).toInt = 0 := by rw [hat0]; exact own_bit0 p4
      obtain ⟨T191, h191, X191, e191, E191, A191, D191, -, st191⟩ := newO X190 hx hZ hown (hw _ (List.mem_of_getElem? (i := 3) rfl)) (hw _ (List.mem_of_getElem? (i := 4) rfl)) (hw _ (List.mem_of_getElem? (i := 5) rfl)) e190 (g := (mkF m 128 #[.val (.int p1), .val (.int p2), .val (.int p3), .val (.int p4), .val (.long q5), .second, .val (.int len), .val (.int (0 : Int32)), .val (.ref b178), .unset, .unset, .unset, .unset, .unset, .unset, .unset] [])) rfl (hb hby at_128) (by decide) (by decide)
      obtain ⟨b191, g191⟩ : ∃ z, z = h190.size := ⟨_, rfl⟩
      rw [← g191] at A191 D191 st191
      have g_b191 : n0 ≤ b191 := Nat.le_trans Z190 (Nat.le_of_eq g191.symm)
      have sz_b191 : h0.size ≤ b191 := Nat.le_trans K190.1 (Nat.le_of_eq g191.symm)
      have ne192 : b178 ≠ b191 := Nat.ne_of_lt (Nat.lt_of_lt_of_le Ar.lt (Nat.le_of_eq g191.symm))
      have Ax193 := Ar.ext E191
      have F191_bytes : Fld Z h191 b191 "com/example/pesquisa/pesquisa/index/ByteSource" "bytes" "[B" .null := D191 (Or.inr (hw _ (List.mem_of_getElem? (i := 13) rfl))) (ty := (.array .byte)) (by decide)
      have F191_end : Fld Z h191 b191 "com/example/pesquisa/pesquisa/index/ByteSource" "end" "I" (.int (0 : Int32)) := D191 (Or.inr (hw _ (List.mem_of_getElem? (i := 15) rfl))) (ty := .int) (by decide)
      have F191_position : Fld Z h191 b191 "com/example/pesquisa/pesquisa/index/ByteSource" "position" "I" (.int (0 : Int32)) := D191 (Or.inl (hw _ (List.mem_of_getElem? (i := 22) rfl))) (ty := .int) (by decide)
      have K191 := K190.ext E191
      have Z191 : n0 ≤ h191.size := Nat.le_trans Z190 E191.1
      obtain ⟨_, _, ⟨T194, L194, k194, n194⟩, -, X194, ⟨Lc194, hQ194, l194, y194, z194⟩, st194⟩ := X191.specialBack hx (y := (⟨"com/example/pesquisa/pesquisa/index/ByteSource", "<init>", "([BI)V"⟩ : MethodName)) rfl hown (mvT hZ (hw _ (List.mem_of_getElem? (i := 6) rfl))) (mvT hZ (hw _ (List.mem_of_getElem? (i := 7) rfl))) (mvT hZ (hw _ (List.mem_of_getElem? (i := 8) rfl))) (by decide) (backOf (W := 1) (rm1 l Z a0 hw [] b191 b178 len h191 n0 Z191 A191 F191_bytes F191_end F191_position g_b191) hZ (hw _ (List.mem_of_getElem? (i := 8) rfl)) (hw _ (List.mem_of_getElem? (i := 5) rfl)) (by decide) (by decide)) (g := (mkF m 136 #[.val (.int p1), .val (.int p2), .val (.int p3), .val (.int p4), .val (.long q5), .second, .val (.int len), .val (.int (0 : Int32)), .val (.ref b178), .unset, .unset, .unset, .unset, .unset, .unset, .unset] [(.int len), (.ref b178), (.ref b191), (.ref b191)])) rfl (by rw [hml]; rfl) (Steps.refl _) (a := b191) (argsL := [(.ref b178), (.int len)]) (rest := [(.ref b191)]) (lenOf pd_0_0 rfl) rfl (by show 2 * 0 + _ ≤ _; exact Nat.le_of_eq rfl) (hb hby at_136) (fun _ _ => ⟨rfl, e191, (by decide : 2 + 0 ≤ _), (by decide : 9 + 0 ≤ _)⟩)
      dsimp only [Pt.U, Pt.locs, Pt.cells, Pt.slots] at X194 l194 y194 z194 st194 hQ194
      subst l194 y194 z194
      obtain ⟨hv194, N194q, K194, E194x, F194_bytes, F194_end, F194_position⟩ := hQ194
      subst hv194
      have N194 := Fr.app N190 N194q
      have Ak195 := own_arr_keep Ax193 K194 (ninS ne192 nin0)
      have Ek196 := A191.keep K194
      have KK194 := K191.trans K194 (allS (Or.inr sz_b191) all0)
      have Z194 : n0 ≤ T194.heap.size := Nat.le_trans Z191 K194.1
      obtain ⟨cq197, kq197, q197a, q197b, q197c⟩ := isOf hZ rfl E194x
      obtain ⟨_, _, ⟨T197, L197, k197, n197⟩, -, X197, ⟨Lc197, hQ197, l197, y197, z197⟩, st197⟩ := X194.virtualBack hx (y := (⟨"com/example/pesquisa/pesquisa/index/ByteSource", "hasMore", "()Z"⟩ : MethodName)) (z := (⟨"com/example/pesquisa/pesquisa/index/ByteSource", "hasMore", "()Z"⟩ : MethodName)) hown (mvT hZ (hw _ (List.mem_of_getElem? (i := 16) rfl))) (mvT hZ (hw _ (List.mem_of_getElem? (i := 17) rfl))) (notFace_of_selects (args := #[]) (mvT hZ (hw _ (List.mem_of_getElem? (i := 19) rfl)))) (mvT hZ (hw _ (List.mem_of_getElem? (i := 19) rfl))) (mvT hZ (hw _ (List.mem_of_getElem? (i := 18) rfl))) (by decide) (backOf (W := 0) (rm3 l Z a0 hw [] b191 len (0 : Int32) T194.heap n0 Z194 F194_end F194_position) hZ (hw _ (List.mem_of_getElem? (i := 20) rfl)) (hw _ (List.mem_of_getElem? (i := 5) rfl)) (by decide) (by decide)) q197a q197c (g := (mkF m 143 #[.val (.int p1), .val (.int p2), .val (.int p3), .val (.int p4), .val (.long q5), .second, .val (.int len), .val (.int (0 : Int32)), .val (.ref b178), .val (.ref b191), .unset, .unset, .unset, .unset, .unset, .unset] [(.ref b191)])) rfl (by rw [hml]; rfl) (Steps.refl _) (argsL := []) (rest := []) (lenOf pd_0_1 rfl) rfl (by show 2 * 0 + _ ≤ _; exact Nat.le_of_eq rfl) (hb hby at_143) (fun _ _ => ⟨rfl, rfl, (by decide : 2 + 0 ≤ _), (by decide : 9 + 0 ≤ _)⟩)
      dsimp only [Pt.U, Pt.locs, Pt.cells, Pt.slots] at X197 l197 y197 z197 st197 hQ197
      subst l197 y197 z197
      obtain ⟨hv197, N197q, e197⟩ := hQ197
      subst hv197
      have N197 := Fr.app N194 N197q
      have pre198 : ∀ t, Steps p.tables e below (T197.setTop (mkF m 152 #[.val (.int p1), .val (.int p2), .val (.int p3), .val (.int p4), .val (.long q5), .second, .val (.int len), .val (.int (0 : Int32)), .val (.ref b178), .val (.ref b191), .val (.int (own_v3 (0 : Int32) len)), .unset, .unset, .unset, .unset, .unset] [(.int len), (.int (own_v3 (0 : Int32) len))])) t → Steps p.tables e below (s₁.setTop (entryFrame m #[(.int p1), (.int p2), (.int p3), (.int p4), (.long q5)] maxLocals)) t := fun t9 k9 => pre176 t9 (by
          show Steps p.tables e below (s₁.setTop (mkF m 18 #[.val (.int p1), .val (.int p2), .val (.int p3), .val (.int p4), .val (.long q5), .second, .val (.int len), .unset, .unset, .unset, .unset, .unset, .unset, .unset, .unset, .unset] [(.int (2 : Int32)), (.int len)])) _
          refine XS.icmpYes X0.here hx rfl (pc0 := 18) (pc' := 25) rfl (hb hby at_18) rfl (own_lt_t (a := len.toInt) (b := (2 : Int)) rfl (by decide) b177) (by decide) (by decide) ?_
          show Steps p.tables e below (s₁.setTop (mkF m 25 #[.val (.int p1), .val (.int p2), .val (.int p3), .val (.int p4), .val (.long q5), .second, .val (.int len), .unset, .unset, .unset, .unset, .unset, .unset, .unset, .unset, .unset] [])) _
          refine XS.iconst X0.here hx rfl (hb hby at_25) ?_
          show Steps p.tables e below (s₁.setTop (mkF m 26 #[.val (.int p1), .val (.int p2), .val (.int p3), .val (.int p4), .val (.long q5), .second, .val (.int len), .unset, .unset, .unset, .unset, .unset, .unset, .unset, .unset, .unset] [(.int (0 : Int32))])) _
          refine XS.istore X0.here hx rfl (hb hby at_26) rfl (l' := #[.val (.int p1), .val (.int p2), .val (.int p3), .val (.int p4), .val (.long q5), .second, .val (.int len), .val (.int (0 : Int32)), .unset, .unset, .unset, .unset, .unset, .unset, .unset, .unset]) rfl ?_
          show Steps p.tables e below (s₁.setTop (mkF m 28 #[.val (.int p1), .val (.int p2), .val (.int p3), .val (.int p4), .val (.long q5), .second, .val (.int len), .val (.int (0 : Int32)), .unset, .unset, .unset, .unset, .unset, .unset, .unset, .unset] [])) _
          refine XS.bipush X0.here hx rfl (hb hby at_28) ?_
          show Steps p.tables e below (s₁.setTop (mkF m 30 #[.val (.int p1), .val (.int p2), .val (.int p3), .val (.int p4), .val (.long q5), .second, .val (.int len), .val (.int (0 : Int32)), .unset, .unset, .unset, .unset, .unset, .unset, .unset, .unset] [(.int (6 : Int32))])) _
          refine st178 _ ?_
          show Steps p.tables e below (T178.setTop (mkF m 32 #[.val (.int p1), .val (.int p2), .val (.int p3), .val (.int p4), .val (.long q5), .second, .val (.int len), .val (.int (0 : Int32)), .unset, .unset, .unset, .unset, .unset, .unset, .unset, .unset] [(.ref b178)])) _
          refine XS.astore X178.here hx rfl (hb hby at_32) rfl rfl (l' := #[.val (.int p1), .val (.int p2), .val (.int p3), .val (.int p4), .val (.long q5), .second, .val (.int len), .val (.int (0 : Int32)), .val (.ref b178), .unset, .unset, .unset, .unset, .unset, .unset, .unset]) rfl ?_
          show Steps p.tables e below (T178.setTop (mkF m 34 #[.val (.int p1), .val (.int p2), .val (.int p3), .val (.int p4), .val (.long q5), .second, .val (.int len), .val (.int (0 : Int32)), .val (.ref b178), .unset, .unset, .unset, .unset, .unset, .unset, .unset] [])) _
          refine XS.aload X178.here hx rfl (hb hby at_34) rfl rfl ?_
          show Steps p.tables e below (T178.setTop (mkF m 36 #[.val (.int p1), .val (.int p2), .val (.int p3), .val (.int p4), .val (.long q5), .second, .val (.int len), .val (.int (0 : Int32)), .val (.ref b178), .unset, .unset, .unset, .unset, .unset, .unset, .unset] [(.ref b178)])) _
          refine XS.iconst X178.here hx rfl (hb hby at_36) ?_
          show Steps p.tables e below (T178.setTop (mkF m 37 #[.val (.int p1), .val (.int p2), .val (.int p3), .val (.int p4), .val (.long q5), .second, .val (.int len), .val (.int (0 : Int32)), .val (.ref b178), .unset, .unset, .unset, .unset, .unset, .unset, .unset] [(.int (0 : Int32)), (.ref b178)])) _
          refine XS.iloadN X178.here hx rfl (hb hby at_37) rfl ?_
          show Steps p.tables e below (T178.setTop (mkF m 38 #[.val (.int p1), .val (.int p2), .val (.int p3), .val (.int p4), .val (.long q5), .second, .val (.int len), .val (.int (0 : Int32)), .val (.ref b178), .unset, .unset, .unset, .unset, .unset, .unset, .unset] [(.int p4), (.int (0 : Int32)), (.ref b178)])) _
          refine XS.bipush X178.here hx rfl (hb hby at_38) ?_
          show Steps p.tables e below (T178.setTop (mkF m 40 #[.val (.int p1), .val (.int p2), .val (.int p3), .val (.int p4), .val (.long q5), .second, .val (.int len), .val (.int (0 : Int32)), .val (.ref b178), .unset, .unset, .unset, .unset, .unset, .unset, .unset] [(.int (127 : Int32)), (.int p4), (.int (0 : Int32)), (.ref b178)])) _
          refine XS.iand X178.here hx rfl (hb hby at_40) rfl ?_
          show Steps p.tables e below (T178.setTop (mkF m 41 #[.val (.int p1), .val (.int p2), .val (.int p3), .val (.int p4), .val (.long q5), .second, .val (.int len), .val (.int (0 : Int32)), .val (.ref b178), .unset, .unset, .unset, .unset, .unset, .unset, .unset] [(.int (p4 &&& (127 : Int32))), (.int (0 : Int32)), (.ref b178)])) _
          refine XS.iload X178.here hx rfl (hb hby at_41) rfl ?_
          show Steps p.tables e below (T178.setTop (mkF m 43 #[.val (.int p1), .val (.int p2), .val (.int p3), .val (.int p4), .val (.long q5), .second, .val (.int len), .val (.int (0 : Int32)), .val (.ref b178), .unset, .unset, .unset, .unset, .unset, .unset, .unset] [(.int (0 : Int32)), (.int (p4 &&& (127 : Int32))), (.int (0 : Int32)), (.ref b178)])) _
          refine XS.ifYes X178.here hx rfl (pc0 := 43) (pc' := 52) rfl (hb hby at_43) rfl ((if0 _ _).trans (own_eq_t (a := (0 : Int)) (b := (0 : Int)) (by decide) (by decide) (by decide))) (by decide) (by decide) ?_
          show Steps p.tables e below (T178.setTop (mkF m 52 #[.val (.int p1), .val (.int p2), .val (.int p3), .val (.int p4), .val (.long q5), .second, .val (.int len), .val (.int (0 : Int32)), .val (.ref b178), .unset, .unset, .unset, .unset, .unset, .unset, .unset] [(.int (p4 &&& (127 : Int32))), (.int (0 : Int32)), (.ref b178)])) _
          refine XS.iconst X178.here hx rfl (hb hby at_52) ?_
          show Steps p.tables e below (T178.setTop (mkF m 53 #[.val (.int p1), .val (.int p2), .val (.int p3), .val (.int p4), .val (.long q5), .second, .val (.int len), .val (.int (0 : Int32)), .val (.ref b178), .unset, .unset, .unset, .unset, .unset, .unset, .unset] [(.int (0 : Int32)), (.int (p4 &&& (127 : Int32))), (.int (0 : Int32)), (.ref b178)])) _
          refine XS.ior X178.here hx rfl (hb hby at_53) rfl ?_
          show Steps p.tables e below (T178.setTop (mkF m 54 #[.val (.int p1), .val (.int p2), .val (.int p3), .val (.int p4), .val (.long q5), .second, .val (.int len), .val (.int (0 : Int32)), .val (.ref b178), .unset, .unset, .unset, .unset, .unset, .unset, .unset] [(.int ((p4 &&& (127 : Int32)) ||| (0 : Int32))), (.int (0 : Int32)), (.ref b178)])) _
          refine XS.i2b X178.here hx rfl (hb hby at_54) rfl ?_
          show Steps p.tables e below (T178.setTop (mkF m 55 #[.val (.int p1), .val (.int p2), .val (.int p3), .val (.int p4), .val (.long q5), .second, .val (.int len), .val (.int (0 : Int32)), .val (.ref b178), .unset, .unset, .unset, .unset, .unset, .unset, .unset] [(.int (((p4 &&& (127 : Int32)) ||| (0 : Int32)).toInt8.toInt32)), (.int (0 : Int32)), (.ref b178)])) _
          refine st180 _ ?_
          show Steps p.tables e below (T180.setTop (mkF m 56 #[.val (.int p1), .val (.int p2), .val (.int p3), .val (.int p4), .val (.long q5), .second, .val (.int len), .val (.int (0 : Int32)), .val (.ref b178), .unset, .unset, .unset, .unset, .unset, .unset, .unset] [])) _
          refine XS.aload X180.here hx rfl (hb hby at_56) rfl rfl ?_
          show Steps p.tables e below (T180.setTop (mkF m 58 #[.val (.int p1), .val (.int p2), .val (.int p3), .val (.int p4), .val (.long q5), .second, .val (.int len), .val (.int (0 : Int32)), .val (.ref b178), .unset, .unset, .unset, .unset, .unset, .unset, .unset] [(.ref b178)])) _
          refine XS.iconst X180.here hx rfl (hb hby at_58) ?_
          show Steps p.tables e below (T180.setTop (mkF m 59 #[.val (.int p1), .val (.int p2), .val (.int p3), .val (.int p4), .val (.long q5), .second, .val (.int len), .val (.int (0 : Int32)), .val (.ref b178), .unset, .unset, .unset, .unset, .unset, .unset, .unset] [(.int (1 : Int32)), (.ref b178)])) _
          refine XS.lload X180.here hx rfl (hb hby at_59) rfl ?_
          show Steps p.tables e below (T180.setTop (mkF m 61 #[.val (.int p1), .val (.int p2), .val (.int p3), .val (.int p4), .val (.long q5), .second, .val (.int len), .val (.int (0 : Int32)), .val (.ref b178), .unset, .unset, .unset, .unset, .unset, .unset, .unset] [(.long q5), (.int (1 : Int32)), (.ref b178)])) _
          refine X180.ldc2Long hx hown (mvT hZ (hw _ (List.mem_of_getElem? (i := 2) rfl))) (g := (mkF m 61 #[.val (.int p1), .val (.int p2), .val (.int p3), .val (.int p4), .val (.long q5), .second, .val (.int len), .val (.int (0 : Int32)), .val (.ref b178), .unset, .unset, .unset, .unset, .unset, .unset, .unset] [(.long q5), (.int (1 : Int32)), (.ref b178)])) rfl (hb hby at_61) _ ?_
          show Steps p.tables e below (T180.setTop (mkF m 64 #[.val (.int p1), .val (.int p2), .val (.int p3), .val (.int p4), .val (.long q5), .second, .val (.int len), .val (.int (0 : Int32)), .val (.ref b178), .unset, .unset, .unset, .unset, .unset, .unset, .unset] [(.long (127 : Int64)), (.long q5), (.int (1 : Int32)), (.ref b178)])) _
          refine XS.land X180.here hx rfl (hb hby at_64) rfl ?_
          show Steps p.tables e below (T180.setTop (mkF m 65 #[.val (.int p1), .val (.int p2), .val (.int p3), .val (.int p4), .val (.long q5), .second, .val (.int len), .val (.int (0 : Int32)), .val (.ref b178), .unset, .unset, .unset, .unset, .unset, .unset, .unset] [(.long (q5 &&& (127 : Int64))), (.int (1 : Int32)), (.ref b178)])) _
          refine XS.l2i X180.here hx rfl (hb hby at_65) rfl ?_
          show Steps p.tables e below (T180.setTop (mkF m 66 #[.val (.int p1), .val (.int p2), .val (.int p3), .val (.int p4), .val (.long q5), .second, .val (.int len), .val (.int (0 : Int32)), .val (.ref b178), .unset, .unset, .unset, .unset, .unset, .unset, .unset] [(.int ((q5 &&& (127 : Int64)).toInt32)), (.int (1 : Int32)), (.ref b178)])) _
          refine XS.i2b X180.here hx rfl (hb hby at_66) rfl ?_
          show Steps p.tables e below (T180.setTop (mkF m 67 #[.val (.int p1), .val (.int p2), .val (.int p3), .val (.int p4), .val (.long q5), .second, .val (.int len), .val (.int (0 : Int32)), .val (.ref b178), .unset, .unset, .unset, .unset, .unset, .unset, .unset] [(.int (((q5 &&& (127 : Int64)).toInt32).toInt8.toInt32)), (.int (1 : Int32)), (.ref b178)])) _
          refine st182 _ ?_
          show Steps p.tables e below (T182.setTop (mkF m 68 #[.val (.int p1), .val (.int p2), .val (.int p3), .val (.int p4), .val (.long q5), .second, .val (.int len), .val (.int (0 : Int32)), .val (.ref b178), .unset, .unset, .unset, .unset, .unset, .unset, .unset] [])) _
          refine XS.aload X182.here hx rfl (hb hby at_68) rfl rfl ?_
          show Steps p.tables e below (T182.setTop (mkF m 70 #[.val (.int p1), .val (.int p2), .val (.int p3), .val (.int p4), .val (.long q5), .second, .val (.int len), .val (.int (0 : Int32)), .val (.ref b178), .unset, .unset, .unset, .unset, .unset, .unset, .unset] [(.ref b178)])) _
          refine XS.iconst X182.here hx rfl (hb hby at_70) ?_
          show Steps p.tables e below (T182.setTop (mkF m 71 #[.val (.int p1), .val (.int p2), .val (.int p3), .val (.int p4), .val (.long q5), .second, .val (.int len), .val (.int (0 : Int32)), .val (.ref b178), .unset, .unset, .unset, .unset, .unset, .unset, .unset] [(.int (2 : Int32)), (.ref b178)])) _
          refine XS.lload X182.here hx rfl (hb hby at_71) rfl ?_
          show Steps p.tables e below (T182.setTop (mkF m 73 #[.val (.int p1), .val (.int p2), .val (.int p3), .val (.int p4), .val (.long q5), .second, .val (.int len), .val (.int (0 : Int32)), .val (.ref b178), .unset, .unset, .unset, .unset, .unset, .unset, .unset] [(.long q5), (.int (2 : Int32)), (.ref b178)])) _
          refine XS.bipush X182.here hx rfl (hb hby at_73) ?_
          show Steps p.tables e below (T182.setTop (mkF m 75 #[.val (.int p1), .val (.int p2), .val (.int p3), .val (.int p4), .val (.long q5), .second, .val (.int len), .val (.int (0 : Int32)), .val (.ref b178), .unset, .unset, .unset, .unset, .unset, .unset, .unset] [(.int (8 : Int32)), (.long q5), (.int (2 : Int32)), (.ref b178)])) _
          refine XS.lushr X182.here hx rfl (hb hby at_75) rfl ?_
          show Steps p.tables e below (T182.setTop (mkF m 76 #[.val (.int p1), .val (.int p2), .val (.int p3), .val (.int p4), .val (.long q5), .second, .val (.int len), .val (.int (0 : Int32)), .val (.ref b178), .unset, .unset, .unset, .unset, .unset, .unset, .unset] [(.long ((q5.toUInt64 >>> ((8 : Int32) &&& 0x3f).toInt64.toUInt64).toInt64)), (.int (2 : Int32)), (.ref b178)])) _
          refine X182.ldc2Long hx hown (mvT hZ (hw _ (List.mem_of_getElem? (i := 2) rfl))) (g := (mkF m 76 #[.val (.int p1), .val (.int p2), .val (.int p3), .val (.int p4), .val (.long q5), .second, .val (.int len), .val (.int (0 : Int32)), .val (.ref b178), .unset, .unset, .unset, .unset, .unset, .unset, .unset] [(.long ((q5.toUInt64 >>> ((8 : Int32) &&& 0x3f).toInt64.toUInt64).toInt64)), (.int (2 : Int32)), (.ref b178)])) rfl (hb hby at_76) _ ?_
          show Steps p.tables e below (T182.setTop (mkF m 79 #[.val (.int p1), .val (.int p2), .val (.int p3), .val (.int p4), .val (.long q5), .second, .val (.int len), .val (.int (0 : Int32)), .val (.ref b178), .unset, .unset, .unset, .unset, .unset, .unset, .unset] [(.long (127 : Int64)), (.long ((q5.toUInt64 >>> ((8 : Int32) &&& 0x3f).toInt64.toUInt64).toInt64)), (.int (2 : Int32)), (.ref b178)])) _
          refine XS.land X182.here hx rfl (hb hby at_79) rfl ?_
          show Steps p.tables e below (T182.setTop (mkF m 80 #[.val (.int p1), .val (.int p2), .val (.int p3), .val (.int p4), .val (.long q5), .second, .val (.int len), .val (.int (0 : Int32)), .val (.ref b178), .unset, .unset, .unset, .unset, .unset, .unset, .unset] [(.long (((q5.toUInt64 >>> ((8 : Int32) &&& 0x3f).toInt64.toUInt64).toInt64) &&& (127 : Int64))), (.int (2 : Int32)), (.ref b178)])) _
          refine XS.l2i X182.here hx rfl (hb hby at_80) rfl ?_
          show Steps p.tables e below (T182.setTop (mkF m 81 #[.val (.int p1), .val (.int p2), .val (.int p3), .val (.int p4), .val (.long q5), .second, .val (.int len), .val (.int (0 : Int32)), .val (.ref b178), .unset, .unset, .unset, .unset, .unset, .unset, .unset] [(.int ((((q5.toUInt64 >>> ((8 : Int32) &&& 0x3f).toInt64.toUInt64).toInt64) &&& (127 : Int64)).toInt32)), (.int (2 : Int32)), (.ref b178)])) _
          refine XS.i2b X182.here hx rfl (hb hby at_81) rfl ?_
          show Steps p.tables e below (T182.setTop (mkF m 82 #[.val (.int p1), .val (.int p2), .val (.int p3), .val (.int p4), .val (.long q5), .second, .val (.int len), .val (.int (0 : Int32)), .val (.ref b178), .unset, .unset, .unset, .unset, .unset, .unset, .unset] [(.int (((((q5.toUInt64 >>> ((8 : Int32) &&& 0x3f).toInt64.toUInt64).toInt64) &&& (127 : Int64)).toInt32).toInt8.toInt32)), (.int (2 : Int32)), (.ref b178)])) _
          refine st184 _ ?_
          show Steps p.tables e below (T184.setTop (mkF m 83 #[.val (.int p1), .val (.int p2), .val (.int p3), .val (.int p4), .val (.long q5), .second, .val (.int len), .val (.int (0 : Int32)), .val (.ref b178), .unset, .unset, .unset, .unset, .unset, .unset, .unset] [])) _
          refine XS.aload X184.here hx rfl (hb hby at_83) rfl rfl ?_
          show Steps p.tables e below (T184.setTop (mkF m 85 #[.val (.int p1), .val (.int p2), .val (.int p3), .val (.int p4), .val (.long q5), .second, .val (.int len), .val (.int (0 : Int32)), .val (.ref b178), .unset, .unset, .unset, .unset, .unset, .unset, .unset] [(.ref b178)])) _
          refine XS.iconst X184.here hx rfl (hb hby at_85) ?_
          show Steps p.tables e below (T184.setTop (mkF m 86 #[.val (.int p1), .val (.int p2), .val (.int p3), .val (.int p4), .val (.long q5), .second, .val (.int len), .val (.int (0 : Int32)), .val (.ref b178), .unset, .unset, .unset, .unset, .unset, .unset, .unset] [(.int (3 : Int32)), (.ref b178)])) _
          refine XS.lload X184.here hx rfl (hb hby at_86) rfl ?_
          show Steps p.tables e below (T184.setTop (mkF m 88 #[.val (.int p1), .val (.int p2), .val (.int p3), .val (.int p4), .val (.long q5), .second, .val (.int len), .val (.int (0 : Int32)), .val (.ref b178), .unset, .unset, .unset, .unset, .unset, .unset, .unset] [(.long q5), (.int (3 : Int32)), (.ref b178)])) _
          refine XS.bipush X184.here hx rfl (hb hby at_88) ?_
          show Steps p.tables e below (T184.setTop (mkF m 90 #[.val (.int p1), .val (.int p2), .val (.int p3), .val (.int p4), .val (.long q5), .second, .val (.int len), .val (.int (0 : Int32)), .val (.ref b178), .unset, .unset, .unset, .unset, .unset, .unset, .unset] [(.int (16 : Int32)), (.long q5), (.int (3 : Int32)), (.ref b178)])) _
          refine XS.lushr X184.here hx rfl (hb hby at_90) rfl ?_
          show Steps p.tables e below (T184.setTop (mkF m 91 #[.val (.int p1), .val (.int p2), .val (.int p3), .val (.int p4), .val (.long q5), .second, .val (.int len), .val (.int (0 : Int32)), .val (.ref b178), .unset, .unset, .unset, .unset, .unset, .unset, .unset] [(.long ((q5.toUInt64 >>> ((16 : Int32) &&& 0x3f).toInt64.toUInt64).toInt64)), (.int (3 : Int32)), (.ref b178)])) _
          refine X184.ldc2Long hx hown (mvT hZ (hw _ (List.mem_of_getElem? (i := 2) rfl))) (g := (mkF m 91 #[.val (.int p1), .val (.int p2), .val (.int p3), .val (.int p4), .val (.long q5), .second, .val (.int len), .val (.int (0 : Int32)), .val (.ref b178), .unset, .unset, .unset, .unset, .unset, .unset, .unset] [(.long ((q5.toUInt64 >>> ((16 : Int32) &&& 0x3f).toInt64.toUInt64).toInt64)), (.int (3 : Int32)), (.ref b178)])) rfl (hb hby at_91) _ ?_
          show Steps p.tables e below (T184.setTop (mkF m 94 #[.val (.int p1), .val (.int p2), .val (.int p3), .val (.int p4), .val (.long q5), .second, .val (.int len), .val (.int (0 : Int32)), .val (.ref b178), .unset, .unset, .unset, .unset, .unset, .unset, .unset] [(.long (127 : Int64)), (.long ((q5.toUInt64 >>> ((16 : Int32) &&& 0x3f).toInt64.toUInt64).toInt64)), (.int (3 : Int32)), (.ref b178)])) _
          refine XS.land X184.here hx rfl (hb hby at_94) rfl ?_
          show Steps p.tables e below (T184.setTop (mkF m 95 #[.val (.int p1), .val (.int p2), .val (.int p3), .val (.int p4), .val (.long q5), .second, .val (.int len), .val (.int (0 : Int32)), .val (.ref b178), .unset, .unset, .unset, .unset, .unset, .unset, .unset] [(.long (((q5.toUInt64 >>> ((16 : Int32) &&& 0x3f).toInt64.toUInt64).toInt64) &&& (127 : Int64))), (.int (3 : Int32)), (.ref b178)])) _
          refine XS.l2i X184.here hx rfl (hb hby at_95) rfl ?_
          show Steps p.tables e below (T184.setTop (mkF m 96 #[.val (.int p1), .val (.int p2), .val (.int p3), .val (.int p4), .val (.long q5), .second, .val (.int len), .val (.int (0 : Int32)), .val (.ref b178), .unset, .unset, .unset, .unset, .unset, .unset, .unset] [(.int ((((q5.toUInt64 >>> ((16 : Int32) &&& 0x3f).toInt64.toUInt64).toInt64) &&& (127 : Int64)).toInt32)), (.int (3 : Int32)), (.ref b178)])) _
          refine XS.i2b X184.here hx rfl (hb hby at_96) rfl ?_
          show Steps p.tables e below (T184.setTop (mkF m 97 #[.val (.int p1), .val (.int p2), .val (.int p3), .val (.int p4), .val (.long q5), .second, .val (.int len), .val (.int (0 : Int32)), .val (.ref b178), .unset, .unset, .unset, .unset, .unset, .unset, .unset] [(.int (((((q5.toUInt64 >>> ((16 : Int32) &&& 0x3f).toInt64.toUInt64).toInt64) &&& (127 : Int64)).toInt32).toInt8.toInt32)), (.int (3 : Int32)), (.ref b178)])) _
          refine st186 _ ?_
          show Steps p.tables e below (T186.setTop (mkF m 98 #[.val (.int p1), .val (.int p2), .val (.int p3), .val (.int p4), .val (.long q5), .second, .val (.int len), .val (.int (0 : Int32)), .val (.ref b178), .unset, .unset, .unset, .unset, .unset, .unset, .unset] [])) _
          refine XS.aload X186.here hx rfl (hb hby at_98) rfl rfl ?_
          show Steps p.tables e below (T186.setTop (mkF m 100 #[.val (.int p1), .val (.int p2), .val (.int p3), .val (.int p4), .val (.long q5), .second, .val (.int len), .val (.int (0 : Int32)), .val (.ref b178), .unset, .unset, .unset, .unset, .unset, .unset, .unset] [(.ref b178)])) _
          refine XS.iconst X186.here hx rfl (hb hby at_100) ?_
          show Steps p.tables e below (T186.setTop (mkF m 101 #[.val (.int p1), .val (.int p2), .val (.int p3), .val (.int p4), .val (.long q5), .second, .val (.int len), .val (.int (0 : Int32)), .val (.ref b178), .unset, .unset, .unset, .unset, .unset, .unset, .unset] [(.int (4 : Int32)), (.ref b178)])) _
          refine XS.lload X186.here hx rfl (hb hby at_101) rfl ?_
          show Steps p.tables e below (T186.setTop (mkF m 103 #[.val (.int p1), .val (.int p2), .val (.int p3), .val (.int p4), .val (.long q5), .second, .val (.int len), .val (.int (0 : Int32)), .val (.ref b178), .unset, .unset, .unset, .unset, .unset, .unset, .unset] [(.long q5), (.int (4 : Int32)), (.ref b178)])) _
          refine XS.bipush X186.here hx rfl (hb hby at_103) ?_
          show Steps p.tables e below (T186.setTop (mkF m 105 #[.val (.int p1), .val (.int p2), .val (.int p3), .val (.int p4), .val (.long q5), .second, .val (.int len), .val (.int (0 : Int32)), .val (.ref b178), .unset, .unset, .unset, .unset, .unset, .unset, .unset] [(.int (24 : Int32)), (.long q5), (.int (4 : Int32)), (.ref b178)])) _
          refine XS.lushr X186.here hx rfl (hb hby at_105) rfl ?_
          show Steps p.tables e below (T186.setTop (mkF m 106 #[.val (.int p1), .val (.int p2), .val (.int p3), .val (.int p4), .val (.long q5), .second, .val (.int len), .val (.int (0 : Int32)), .val (.ref b178), .unset, .unset, .unset, .unset, .unset, .unset, .unset] [(.long ((q5.toUInt64 >>> ((24 : Int32) &&& 0x3f).toInt64.toUInt64).toInt64)), (.int (4 : Int32)), (.ref b178)])) _
          refine X186.ldc2Long hx hown (mvT hZ (hw _ (List.mem_of_getElem? (i := 2) rfl))) (g := (mkF m 106 #[.val (.int p1), .val (.int p2), .val (.int p3), .val (.int p4), .val (.long q5), .second, .val (.int len), .val (.int (0 : Int32)), .val (.ref b178), .unset, .unset, .unset, .unset, .unset, .unset, .unset] [(.long ((q5.toUInt64 >>> ((24 : Int32) &&& 0x3f).toInt64.toUInt64).toInt64)), (.int (4 : Int32)), (.ref b178)])) rfl (hb hby at_106) _ ?_
          show Steps p.tables e below (T186.setTop (mkF m 109 #[.val (.int p1), .val (.int p2), .val (.int p3), .val (.int p4), .val (.long q5), .second, .val (.int len), .val (.int (0 : Int32)), .val (.ref b178), .unset, .unset, .unset, .unset, .unset, .unset, .unset] [(.long (127 : Int64)), (.long ((q5.toUInt64 >>> ((24 : Int32) &&& 0x3f).toInt64.toUInt64).toInt64)), (.int (4 : Int32)), (.ref b178)])) _
          refine XS.land X186.here hx rfl (hb hby at_109) rfl ?_
          show Steps p.tables e below (T186.setTop (mkF m 110 #[.val (.int p1), .val (.int p2), .val (.int p3), .val (.int p4), .val (.long q5), .second, .val (.int len), .val (.int (0 : Int32)), .val (.ref b178), .unset, .unset, .unset, .unset, .unset, .unset, .unset] [(.long (((q5.toUInt64 >>> ((24 : Int32) &&& 0x3f).toInt64.toUInt64).toInt64) &&& (127 : Int64))), (.int (4 : Int32)), (.ref b178)])) _
          refine XS.l2i X186.here hx rfl (hb hby at_110) rfl ?_
          show Steps p.tables e below (T186.setTop (mkF m 111 #[.val (.int p1), .val (.int p2), .val (.int p3), .val (.int p4), .val (.long q5), .second, .val (.int len), .val (.int (0 : Int32)), .val (.ref b178), .unset, .unset, .unset, .unset, .unset, .unset, .unset] [(.int ((((q5.toUInt64 >>> ((24 : Int32) &&& 0x3f).toInt64.toUInt64).toInt64) &&& (127 : Int64)).toInt32)), (.int (4 : Int32)), (.ref b178)])) _
          refine XS.i2b X186.here hx rfl (hb hby at_111) rfl ?_
          show Steps p.tables e below (T186.setTop (mkF m 112 #[.val (.int p1), .val (.int p2), .val (.int p3), .val (.int p4), .val (.long q5), .second, .val (.int len), .val (.int (0 : Int32)), .val (.ref b178), .unset, .unset, .unset, .unset, .unset, .unset, .unset] [(.int (((((q5.toUInt64 >>> ((24 : Int32) &&& 0x3f).toInt64.toUInt64).toInt64) &&& (127 : Int64)).toInt32).toInt8.toInt32)), (.int (4 : Int32)), (.ref b178)])) _
          refine st188 _ ?_
          show Steps p.tables e below (T188.setTop (mkF m 113 #[.val (.int p1), .val (.int p2), .val (.int p3), .val (.int p4), .val (.long q5), .second, .val (.int len), .val (.int (0 : Int32)), .val (.ref b178), .unset, .unset, .unset, .unset, .unset, .unset, .unset] [])) _
          refine XS.aload X188.here hx rfl (hb hby at_113) rfl rfl ?_
          show Steps p.tables e below (T188.setTop (mkF m 115 #[.val (.int p1), .val (.int p2), .val (.int p3), .val (.int p4), .val (.long q5), .second, .val (.int len), .val (.int (0 : Int32)), .val (.ref b178), .unset, .unset, .unset, .unset, .unset, .unset, .unset] [(.ref b178)])) _
          refine XS.iconst X188.here hx rfl (hb hby at_115) ?_
          show Steps p.tables e below (T188.setTop (mkF m 116 #[.val (.int p1), .val (.int p2), .val (.int p3), .val (.int p4), .val (.long q5), .second, .val (.int len), .val (.int (0 : Int32)), .val (.ref b178), .unset, .unset, .unset, .unset, .unset, .unset, .unset] [(.int (5 : Int32)), (.ref b178)])) _
          refine XS.lload X188.here hx rfl (hb hby at_116) rfl ?_
          show Steps p.tables e below (T188.setTop (mkF m 118 #[.val (.int p1), .val (.int p2), .val (.int p3), .val (.int p4), .val (.long q5), .second, .val (.int len), .val (.int (0 : Int32)), .val (.ref b178), .unset, .unset, .unset, .unset, .unset, .unset, .unset] [(.long q5), (.int (5 : Int32)), (.ref b178)])) _
          refine XS.bipush X188.here hx rfl (hb hby at_118) ?_
          show Steps p.tables e below (T188.setTop (mkF m 120 #[.val (.int p1), .val (.int p2), .val (.int p3), .val (.int p4), .val (.long q5), .second, .val (.int len), .val (.int (0 : Int32)), .val (.ref b178), .unset, .unset, .unset, .unset, .unset, .unset, .unset] [(.int (32 : Int32)), (.long q5), (.int (5 : Int32)), (.ref b178)])) _
          refine XS.lushr X188.here hx rfl (hb hby at_120) rfl ?_
          show Steps p.tables e below (T188.setTop (mkF m 121 #[.val (.int p1), .val (.int p2), .val (.int p3), .val (.int p4), .val (.long q5), .second, .val (.int len), .val (.int (0 : Int32)), .val (.ref b178), .unset, .unset, .unset, .unset, .unset, .unset, .unset] [(.long ((q5.toUInt64 >>> ((32 : Int32) &&& 0x3f).toInt64.toUInt64).toInt64)), (.int (5 : Int32)), (.ref b178)])) _
          refine X188.ldc2Long hx hown (mvT hZ (hw _ (List.mem_of_getElem? (i := 2) rfl))) (g := (mkF m 121 #[.val (.int p1), .val (.int p2), .val (.int p3), .val (.int p4), .val (.long q5), .second, .val (.int len), .val (.int (0 : Int32)), .val (.ref b178), .unset, .unset, .unset, .unset, .unset, .unset, .unset] [(.long ((q5.toUInt64 >>> ((32 : Int32) &&& 0x3f).toInt64.toUInt64).toInt64)), (.int (5 : Int32)), (.ref b178)])) rfl (hb hby at_121) _ ?_
          show Steps p.tables e below (T188.setTop (mkF m 124 #[.val (.int p1), .val (.int p2), .val (.int p3), .val (.int p4), .val (.long q5), .second, .val (.int len), .val (.int (0 : Int32)), .val (.ref b178), .unset, .unset, .unset, .unset, .unset, .unset, .unset] [(.long (127 : Int64)), (.long ((q5.toUInt64 >>> ((32 : Int32) &&& 0x3f).toInt64.toUInt64).toInt64)), (.int (5 : Int32)), (.ref b178)])) _
          refine XS.land X188.here hx rfl (hb hby at_124) rfl ?_
          show Steps p.tables e below (T188.setTop (mkF m 125 #[.val (.int p1), .val (.int p2), .val (.int p3), .val (.int p4), .val (.long q5), .second, .val (.int len), .val (.int (0 : Int32)), .val (.ref b178), .unset, .unset, .unset, .unset, .unset, .unset, .unset] [(.long (((q5.toUInt64 >>> ((32 : Int32) &&& 0x3f).toInt64.toUInt64).toInt64) &&& (127 : Int64))), (.int (5 : Int32)), (.ref b178)])) _
          refine XS.l2i X188.here hx rfl (hb hby at_125) rfl ?_
          show Steps p.tables e below (T188.setTop (mkF m 126 #[.val (.int p1), .val (.int p2), .val (.int p3), .val (.int p4), .val (.long q5), .second, .val (.int len), .val (.int (0 : Int32)), .val (.ref b178), .unset, .unset, .unset, .unset, .unset, .unset, .unset] [(.int ((((q5.toUInt64 >>> ((32 : Int32) &&& 0x3f).toInt64.toUInt64).toInt64) &&& (127 : Int64)).toInt32)), (.int (5 : Int32)), (.ref b178)])) _
          refine XS.i2b X188.here hx rfl (hb hby at_126) rfl ?_
          show Steps p.tables e below (T188.setTop (mkF m 127 #[.val (.int p1), .val (.int p2), .val (.int p3), .val (.int p4), .val (.long q5), .second, .val (.int len), .val (.int (0 : Int32)), .val (.ref b178), .unset, .unset, .unset, .unset, .unset, .unset, .unset] [(.int (((((q5.toUInt64 >>> ((32 : Int32) &&& 0x3f).toInt64.toUInt64).toInt64) &&& (127 : Int64)).toInt32).toInt8.toInt32)), (.int (5 : Int32)), (.ref b178)])) _
          refine st190 _ ?_
          show Steps p.tables e below (T190.setTop (mkF m 128 #[.val (.int p1), .val (.int p2), .val (.int p3), .val (.int p4), .val (.long q5), .second, .val (.int len), .val (.int (0 : Int32)), .val (.ref b178), .unset, .unset, .unset, .unset, .unset, .unset, .unset] [])) _
          refine st191 _ ?_
          show Steps p.tables e below (T191.setTop (mkF m 131 #[.val (.int p1), .val (.int p2), .val (.int p3), .val (.int p4), .val (.long q5), .second, .val (.int len), .val (.int (0 : Int32)), .val (.ref b178), .unset, .unset, .unset, .unset, .unset, .unset, .unset] [(.ref b191)])) _
          refine XS.dup X191.here hx rfl (hb hby at_131) rfl rfl ?_
          show Steps p.tables e below (T191.setTop (mkF m 132 #[.val (.int p1), .val (.int p2), .val (.int p3), .val (.int p4), .val (.long q5), .second, .val (.int len), .val (.int (0 : Int32)), .val (.ref b178), .unset, .unset, .unset, .unset, .unset, .unset, .unset] [(.ref b191), (.ref b191)])) _
          refine XS.aload X191.here hx rfl (hb hby at_132) rfl rfl ?_
          show Steps p.tables e below (T191.setTop (mkF m 134 #[.val (.int p1), .val (.int p2), .val (.int p3), .val (.int p4), .val (.long q5), .second, .val (.int len), .val (.int (0 : Int32)), .val (.ref b178), .unset, .unset, .unset, .unset, .unset, .unset, .unset] [(.ref b178), (.ref b191), (.ref b191)])) _
          refine XS.iload X191.here hx rfl (hb hby at_134) rfl ?_
          show Steps p.tables e below (T191.setTop (mkF m 136 #[.val (.int p1), .val (.int p2), .val (.int p3), .val (.int p4), .val (.long q5), .second, .val (.int len), .val (.int (0 : Int32)), .val (.ref b178), .unset, .unset, .unset, .unset, .unset, .unset, .unset] [(.int len), (.ref b178), (.ref b191), (.ref b191)])) _
          refine st194.trans ?_
          show Steps p.tables e below (T194.setTop (mkF m 139 #[.val (.int p1), .val (.int p2), .val (.int p3), .val (.int p4), .val (.long q5), .second, .val (.int len), .val (.int (0 : Int32)), .val (.ref b178), .unset, .unset, .unset, .unset, .unset, .unset, .unset] [(.ref b191)])) _
          refine XS.astore X194.here hx rfl (hb hby at_139) rfl rfl (l' := #[.val (.int p1), .val (.int p2), .val (.int p3), .val (.int p4), .val (.long q5), .second, .val (.int len), .val (.int (0 : Int32)), .val (.ref b178), .val (.ref b191), .unset, .unset, .unset, .unset, .unset, .unset]) rfl ?_
          show Steps p.tables e below (T194.setTop (mkF m 141 #[.val (.int p1), .val (.int p2), .val (.int p3), .val (.int p4), .val (.long q5), .second, .val (.int len), .val (.int (0 : Int32)), .val (.ref b178), .val (.ref b191), .unset, .unset, .unset, .unset, .unset, .unset] [])) _
          refine XS.aload X194.here hx rfl (hb hby at_141) rfl rfl ?_
          show Steps p.tables e below (T194.setTop (mkF m 143 #[.val (.int p1), .val (.int p2), .val (.int p3), .val (.int p4), .val (.long q5), .second, .val (.int len), .val (.int (0 : Int32)), .val (.ref b178), .val (.ref b191), .unset, .unset, .unset, .unset, .unset, .unset] [(.ref b191)])) _
          refine st197.trans ?_
          show Steps p.tables e below (T197.setTop (mkF m 146 #[.val (.int p1), .val (.int p2), .val (.int p3), .val (.int p4), .val (.long q5), .second, .val (.int len), .val (.int (0 : Int32)), .val (.ref b178), .val (.ref b191), .unset, .unset, .unset, .unset, .unset, .unset] [(.int (own_v3 (0 : Int32) len))])) _
          refine XS.istore X197.here hx rfl (hb hby at_146) rfl (l' := #[.val (.int p1), .val (.int p2), .val (.int p3), .val (.int p4), .val (.long q5), .second, .val (.int len), .val (.int (0 : Int32)), .val (.ref b178), .val (.ref b191), .val (.int (own_v3 (0 : Int32) len)), .unset, .unset, .unset, .unset, .unset]) rfl ?_
          show Steps p.tables e below (T197.setTop (mkF m 148 #[.val (.int p1), .val (.int p2), .val (.int p3), .val (.int p4), .val (.long q5), .second, .val (.int len), .val (.int (0 : Int32)), .val (.ref b178), .val (.ref b191), .val (.int (own_v3 (0 : Int32) len)), .unset, .unset, .unset, .unset, .unset] [])) _
          refine XS.iload X197.here hx rfl (hb hby at_148) rfl ?_
          show Steps p.tables e below (T197.setTop (mkF m 150 #[.val (.int p1), .val (.int p2), .val (.int p3), .val (.int p4), .val (.long q5), .second, .val (.int len), .val (.int (0 : Int32)), .val (.ref b178), .val (.ref b191), .val (.int (own_v3 (0 : Int32) len)), .unset, .unset, .unset, .unset, .unset] [(.int (own_v3 (0 : Int32) len))])) _
          refine XS.iload X197.here hx rfl (hb hby at_150) rfl ?_
          exact k9)
      by_cases b199 : (0 : Int) < len.toInt
      · have pre200 : ∀ t, Steps p.tables e below (T197.setTop (mkF m 160 #[.val (.int p1), .val (.int p2), .val (.int p3), .val (.int p4), .val (.long q5), .second, .val (.int len), .val (.int (0 : Int32)), .val (.ref b178), .val (.ref b191), .val (.int (own_v3 (0 : Int32) len)), .unset, .unset, .unset, .unset, .unset] [(.int (1 : Int32)), (.int (own_v3 (0 : Int32) len))])) t → Steps p.tables e below (s₁.setTop (entryFrame m #[(.int p1), (.int p2), (.int p3), (.int p4), (.long q5)] maxLocals)) t := fun t9 k9 => pre198 t9 (by
            show Steps p.tables e below (T197.setTop (mkF m 152 #[.val (.int p1), .val (.int p2), .val (.int p3), .val (.int p4), .val (.long q5), .second, .val (.int len), .val (.int (0 : Int32)), .val (.ref b178), .val (.ref b191), .val (.int (own_v3 (0 : Int32) len)), .unset, .unset, .unset, .unset, .unset] [(.int len), (.int (own_v3 (0 : Int32) len))])) _
            refine XS.ifNo X197.here hx rfl (hb hby at_152) rfl ((if0 _ _).trans (own_le_f (a := len.toInt) (b := (0 : Int)) rfl (by decide) b199)) ?_
            show Steps p.tables e below (T197.setTop (mkF m 155 #[.val (.int p1), .val (.int p2), .val (.int p3), .val (.int p4), .val (.long q5), .second, .val (.int len), .val (.int (0 : Int32)), .val (.ref b178), .val (.ref b191), .val (.int (own_v3 (0 : Int32) len)), .unset, .unset, .unset, .unset, .unset] [(.int (own_v3 (0 : Int32) len))])) _
            refine XS.iconst X197.here hx rfl (hb hby at_155) ?_
            show Steps p.tables e below (T197.setTop (mkF m 156 #[.val (.int p1), .val (.int p2), .val (.int p3), .val (.int p4), .val (.long q5), .second, .val (.int len), .val (.int (0 : Int32)), .val (.ref b178), .val (.ref b191), .val (.int (own_v3 (0 : Int32) len)), .unset, .unset, .unset, .unset, .unset] [(.int (1 : Int32)), (.int (own_v3 (0 : Int32) len))])) _
            refine XS.goto X197.here hx rfl (pc0 := 156) (pc' := 160) rfl (hb hby at_156) (by decide) (by decide) ?_
            exact k9)
        have b201 : (own_v3 (0 : Int32) len).toInt = (1 : Int) := by (have h01 := own_v3_01 (0 : Int32) len; have h00 : (0 : Int32).toInt = 0 := (by decide); omega)
        have pre202 : ∀ t, Steps p.tables e below (T197.setTop (mkF m 188 #[.val (.int p1), .val (.int p2), .val (.int p3), .val (.int p4), .val (.long q5), .second, .val (.int len), .val (.int (0 : Int32)), .val (.ref b178), .val (.ref b191), .val (.int (own_v3 (0 : Int32) len)), .val (.int len), .unset, .unset, .unset, .unset] [(.int ((p2 &&& (2147483647 : Int32)) % (7 : Int32)))])) t → Steps p.tables e below (s₁.setTop (entryFrame m #[(.int p1), (.int p2), (.int p3), (.int p4), (.long q5)] maxLocals)) t := fun t9 k9 => pre200 t9 (by
            show Steps p.tables e below (T197.setTop (mkF m 160 #[.val (.int p1), .val (.int p2), .val (.int p3), .val (.int p4), .val (.long q5), .second, .val (.int len), .val (.int (0 : Int32)), .val (.ref b178), .val (.ref b191), .val (.int (own_v3 (0 : Int32) len)), .unset, .unset, .unset, .unset, .unset] [(.int (1 : Int32)), (.int (own_v3 (0 : Int32) len))])) _
            refine XS.icmpYes X197.here hx rfl (pc0 := 160) (pc' := 165) rfl (hb hby at_160) rfl (own_eq_t (a := (own_v3 (0 : Int32) len).toInt) (b := (1 : Int)) rfl (by decide) b201) (by decide) (by decide) ?_
            show Steps p.tables e below (T197.setTop (mkF m 165 #[.val (.int p1), .val (.int p2), .val (.int p3), .val (.int p4), .val (.long q5), .second, .val (.int len), .val (.int (0 : Int32)), .val (.ref b178), .val (.ref b191), .val (.int (own_v3 (0 : Int32) len)), .unset, .unset, .unset, .unset, .unset] [])) _
            refine XS.iload X197.here hx rfl (hb hby at_165) rfl ?_
            show Steps p.tables e below (T197.setTop (mkF m 167 #[.val (.int p1), .val (.int p2), .val (.int p3), .val (.int p4), .val (.long q5), .second, .val (.int len), .val (.int (0 : Int32)), .val (.ref b178), .val (.ref b191), .val (.int (own_v3 (0 : Int32) len)), .unset, .unset, .unset, .unset, .unset] [(.int (0 : Int32))])) _
            refine XS.ifYes X197.here hx rfl (pc0 := 167) (pc' := 177) rfl (hb hby at_167) rfl ((if0 _ _).trans (own_eq_t (a := (0 : Int)) (b := (0 : Int)) (by decide) (by decide) (by decide))) (by decide) (by decide) ?_
            show Steps p.tables e below (T197.setTop (mkF m 177 #[.val (.int p1), .val (.int p2), .val (.int p3), .val (.int p4), .val (.long q5), .second, .val (.int len), .val (.int (0 : Int32)), .val (.ref b178), .val (.ref b191), .val (.int (own_v3 (0 : Int32) len)), .unset, .unset, .unset, .unset, .unset] [])) _
            refine XS.iload X197.here hx rfl (hb hby at_177) rfl ?_
            show Steps p.tables e below (T197.setTop (mkF m 179 #[.val (.int p1), .val (.int p2), .val (.int p3), .val (.int p4), .val (.long q5), .second, .val (.int len), .val (.int (0 : Int32)), .val (.ref b178), .val (.ref b191), .val (.int (own_v3 (0 : Int32) len)), .unset, .unset, .unset, .unset, .unset] [(.int len)])) _
            refine XS.istore X197.here hx rfl (hb hby at_179) rfl (l' := #[.val (.int p1), .val (.int p2), .val (.int p3), .val (.int p4), .val (.long q5), .second, .val (.int len), .val (.int (0 : Int32)), .val (.ref b178), .val (.ref b191), .val (.int (own_v3 (0 : Int32) len)), .val (.int len), .unset, .unset, .unset, .unset]) rfl ?_
            show Steps p.tables e below (T197.setTop (mkF m 181 #[.val (.int p1), .val (.int p2), .val (.int p3), .val (.int p4), .val (.long q5), .second, .val (.int len), .val (.int (0 : Int32)), .val (.ref b178), .val (.ref b191), .val (.int (own_v3 (0 : Int32) len)), .val (.int len), .unset, .unset, .unset, .unset] [])) _
            refine XS.iloadN X197.here hx rfl (hb hby at_181) rfl ?_
            show Steps p.tables e below (T197.setTop (mkF m 182 #[.val (.int p1), .val (.int p2), .val (.int p3), .val (.int p4), .val (.long q5), .second, .val (.int len), .val (.int (0 : Int32)), .val (.ref b178), .val (.ref b191), .val (.int (own_v3 (0 : Int32) len)), .val (.int len), .unset, .unset, .unset, .unset] [(.int p2)])) _
            refine X197.ldcInt hx hown (mvT hZ (hw _ (List.mem_of_getElem? (i := 0) rfl))) (g := (mkF m 182 #[.val (.int p1), .val (.int p2), .val (.int p3), .val (.int p4), .val (.long q5), .second, .val (.int len), .val (.int (0 : Int32)), .val (.ref b178), .val (.ref b191), .val (.int (own_v3 (0 : Int32) len)), .val (.int len), .unset, .unset, .unset, .unset] [(.int p2)])) rfl (hb hby at_182) _ ?_
            show Steps p.tables e below (T197.setTop (mkF m 184 #[.val (.int p1), .val (.int p2), .val (.int p3), .val (.int p4), .val (.long q5), .second, .val (.int len), .val (.int (0 : Int32)), .val (.ref b178), .val (.ref b191), .val (.int (own_v3 (0 : Int32) len)), .val (.int len), .unset, .unset, .unset, .unset] [(.int (2147483647 : Int32)), (.int p2)])) _
            refine XS.iand X197.here hx rfl (hb hby at_184) rfl ?_
            show Steps p.tables e below (T197.setTop (mkF m 185 #[.val (.int p1), .val (.int p2), .val (.int p3), .val (.int p4), .val (.long q5), .second, .val (.int len), .val (.int (0 : Int32)), .val (.ref b178), .val (.ref b191), .val (.int (own_v3 (0 : Int32) len)), .val (.int len), .unset, .unset, .unset, .unset] [(.int (p2 &&& (2147483647 : Int32)))])) _
            refine XS.bipush X197.here hx rfl (hb hby at_185) ?_
            show Steps p.tables e below (T197.setTop (mkF m 187 #[.val (.int p1), .val (.int p2), .val (.int p3), .val (.int p4), .val (.long q5), .second, .val (.int len), .val (.int (0 : Int32)), .val (.ref b178), .val (.ref b191), .val (.int (own_v3 (0 : Int32) len)), .val (.int len), .unset, .unset, .unset, .unset] [(.int (7 : Int32)), (.int (p2 &&& (2147483647 : Int32)))])) _
            refine iremM X197 hx rfl (hb hby at_187) rfl (by decide) ?_
            exact k9)
        obtain ⟨rd, h_rd⟩ : ∃ z, ((p2 &&& (2147483647 : Int32)) % (7 : Int32)) = z := ⟨_, rfl⟩
        rw [h_rd] at pre202 hr3
        clear hr2
        obtain ⟨_, _, ⟨T203, L203, k203, n203⟩, -, X203, ⟨Lc203, hQ203, l203, y203, z203⟩, st203⟩ := Jvm.LawKit.callS X197 hx (y := (⟨"java/lang/Math", "min", "(II)I"⟩ : MethodName)) hown (mvT hZ (hw _ (List.mem_of_getElem? (i := 23) rfl))) (mvT hZ (hw _ (List.mem_of_getElem? (i := 24) rfl))) (mvT hZ (hw _ (List.mem_of_getElem? (i := 25) rfl))) (mvT hZ (hw _ (List.mem_of_getElem? (i := 26) rfl))) (by decide) (backOf (W := 0) (rm4 l Z a0 hw [] rd len T194.heap n0 Z194 ) hZ (hw _ (List.mem_of_getElem? (i := 26) rfl)) (hw _ (List.mem_of_getElem? (i := 25) rfl)) (by decide) (by decide)) (g := (mkF m 190 #[.val (.int p1), .val (.int p2), .val (.int p3), .val (.int p4), .val (.long q5), .second, .val (.int len), .val (.int (0 : Int32)), .val (.ref b178), .val (.ref b191), .val (.int (own_v3 (0 : Int32) len)), .val (.int len), .unset, .unset, .unset, .unset] [(.int len), (.int rd)])) rfl (by rw [hml]; rfl) (argsL := [(.int rd), (.int len)]) (rest := []) (lenOf pd_0_2 rfl) rfl (by show 2 * 0 + _ ≤ _; exact Nat.le_of_eq rfl) (hb hby at_190) (fun _ _ => ⟨rfl, e197, (by decide : 2 + 0 ≤ _), (by decide : 9 + 0 ≤ _)⟩)
        dsimp only [Pt.U, Pt.locs, Pt.cells, Pt.slots] at X203 l203 y203 z203 st203 hQ203
        subst l203 y203 z203
        obtain ⟨hv203, N203q, e203⟩ := hQ203
        have hmin := own_v4_s rd len
        obtain ⟨k, h_k⟩ : ∃ z, (own_v4 rd len) = z := ⟨_, rfl⟩
        rw [h_k] at hmin hv203
        have hkl := c_i2l k
        have hk1 := own_add1 k (by omega)
        subst hv203
        have N203 := Fr.app N197 N203q
        obtain ⟨cq204, kq204, q204a, q204b, q204c⟩ := isOf hZ e203 E194x
        obtain ⟨_, _, ⟨T204, L204, k204, n204⟩, -, X204, ⟨Lc204, hQ204, l204, y204, z204⟩, st204⟩ := X203.virtualBack hx (y := (⟨"com/example/pesquisa/pesquisa/index/ByteSource", "skipNumbers", "(J)V"⟩ : MethodName)) (z := (⟨"com/example/pesquisa/pesquisa/index/ByteSource", "skipNumbers", "(J)V"⟩ : MethodName)) hown (mvT hZ (hw _ (List.mem_of_getElem? (i := 27) rfl))) (mvT hZ (hw _ (List.mem_of_getElem? (i := 28) rfl))) (notFace_of_selects (args := #[]) (mvT hZ (hw _ (List.mem_of_getElem? (i := 30) rfl)))) (mvT hZ (hw _ (List.mem_of_getElem? (i := 30) rfl))) (mvT hZ (hw _ (List.mem_of_getElem? (i := 29) rfl))) (by decide) (backOf (W := 0) (rm5 l Z a0 hw [] b191 (k.toInt64) b178 cl len 0 T194.heap n0 Z194 E194x F194_bytes F194_end F194_position g_b191 Ak195 ne192 hall hbits (Or.inl ⟨rfl, hbit0⟩) (by omega) (by omega) (by omega)) hZ (hw _ (List.mem_of_getElem? (i := 31) rfl)) (hw _ (List.mem_of_getElem? (i := 5) rfl)) (by decide) (by decide)) q204a q204c (g := (mkF m 200 #[.val (.int p1), .val (.int p2), .val (.int p3), .val (.int p4), .val (.long q5), .second, .val (.int len), .val (.int (0 : Int32)), .val (.ref b178), .val (.ref b191), .val (.int (own_v3 (0 : Int32) len)), .val (.int len), .val (.int k), .unset, .unset, .unset] [(.long (k.toInt64)), (.ref b191)])) rfl (by rw [hml]; rfl) (Steps.refl _) (argsL := [(.long (k.toInt64))]) (rest := []) (lenOf pd_0_3 rfl) rfl (by show 2 * 0 + _ ≤ _; exact Nat.le_of_eq rfl) (hb hby at_200) (fun _ _ => ⟨rfl, e203, (by decide : 2 + 0 ≤ _), (by decide : 9 + 0 ≤ _)⟩)
        dsimp only [Pt.U, Pt.locs, Pt.cells, Pt.slots] at X204 l204 y204 z204 st204 hQ204
        subst l204 y204 z204
        obtain ⟨ps204, hv204, N204q, K204, E204x, Fb204, Fe204, Fp204, hps204⟩ := hQ204
        subst hv204
        have N204 := Fr.app N203 N204q
        have Ak205 := own_arr_keep Ak195 K204 (ninS ne192 nin0)
        have Ek206 := E194x.keep K204
        have KK204 := KK194.trans K204 (allS (Or.inr sz_b191) all0)
        have Z204 : n0 ≤ T204.heap.size := Nat.le_trans Z194 K204.1
        rw [c_i2l] at hps204
        have pre207 : ∀ t, Steps p.tables e below (T204.setTop (mkF m 205 #[.val (.int p1), .val (.int p2), .val (.int p3), .val (.int p4), .val (.long q5), .second, .val (.int len), .val (.int (0 : Int32)), .val (.ref b178), .val (.ref b191), .val (.int (own_v3 (0 : Int32) len)), .val (.int len), .val (.int k), .unset, .unset, .unset] [(.int k)])) t → Steps p.tables e below (s₁.setTop (entryFrame m #[(.int p1), (.int p2), (.int p3), (.int p4), (.long q5)] maxLocals)) t := fun t9 k9 => pre202 t9 (by
            show Steps p.tables e below (T197.setTop (mkF m 188 #[.val (.int p1), .val (.int p2), .val (.int p3), .val (.int p4), .val (.long q5), .second, .val (.int len), .val (.int (0 : Int32)), .val (.ref b178), .val (.ref b191), .val (.int (own_v3 (0 : Int32) len)), .val (.int len), .unset, .unset, .unset, .unset] [(.int rd)])) _
            refine XS.iload X197.here hx rfl (hb hby at_188) rfl ?_
            show Steps p.tables e below (T197.setTop (mkF m 190 #[.val (.int p1), .val (.int p2), .val (.int p3), .val (.int p4), .val (.long q5), .second, .val (.int len), .val (.int (0 : Int32)), .val (.ref b178), .val (.ref b191), .val (.int (own_v3 (0 : Int32) len)), .val (.int len), .unset, .unset, .unset, .unset] [(.int len), (.int rd)])) _
            refine st203 _ ?_
            show Steps p.tables e below (T203.setTop (mkF m 193 #[.val (.int p1), .val (.int p2), .val (.int p3), .val (.int p4), .val (.long q5), .second, .val (.int len), .val (.int (0 : Int32)), .val (.ref b178), .val (.ref b191), .val (.int (own_v3 (0 : Int32) len)), .val (.int len), .unset, .unset, .unset, .unset] [(.int k)])) _
            refine XS.istore X203.here hx rfl (hb hby at_193) rfl (l' := #[.val (.int p1), .val (.int p2), .val (.int p3), .val (.int p4), .val (.long q5), .second, .val (.int len), .val (.int (0 : Int32)), .val (.ref b178), .val (.ref b191), .val (.int (own_v3 (0 : Int32) len)), .val (.int len), .val (.int k), .unset, .unset, .unset]) rfl ?_
            show Steps p.tables e below (T203.setTop (mkF m 195 #[.val (.int p1), .val (.int p2), .val (.int p3), .val (.int p4), .val (.long q5), .second, .val (.int len), .val (.int (0 : Int32)), .val (.ref b178), .val (.ref b191), .val (.int (own_v3 (0 : Int32) len)), .val (.int len), .val (.int k), .unset, .unset, .unset] [])) _
            refine XS.aload X203.here hx rfl (hb hby at_195) rfl rfl ?_
            show Steps p.tables e below (T203.setTop (mkF m 197 #[.val (.int p1), .val (.int p2), .val (.int p3), .val (.int p4), .val (.long q5), .second, .val (.int len), .val (.int (0 : Int32)), .val (.ref b178), .val (.ref b191), .val (.int (own_v3 (0 : Int32) len)), .val (.int len), .val (.int k), .unset, .unset, .unset] [(.ref b191)])) _
            refine XS.iload X203.here hx rfl (hb hby at_197) rfl ?_
            show Steps p.tables e below (T203.setTop (mkF m 199 #[.val (.int p1), .val (.int p2), .val (.int p3), .val (.int p4), .val (.long q5), .second, .val (.int len), .val (.int (0 : Int32)), .val (.ref b178), .val (.ref b191), .val (.int (own_v3 (0 : Int32) len)), .val (.int len), .val (.int k), .unset, .unset, .unset] [(.int k), (.ref b191)])) _
            refine XS.i2l X203.here hx rfl (hb hby at_199) rfl ?_
            show Steps p.tables e below (T203.setTop (mkF m 200 #[.val (.int p1), .val (.int p2), .val (.int p3), .val (.int p4), .val (.long q5), .second, .val (.int len), .val (.int (0 : Int32)), .val (.ref b178), .val (.ref b191), .val (.int (own_v3 (0 : Int32) len)), .val (.int len), .val (.int k), .unset, .unset, .unset] [(.long (k.toInt64)), (.ref b191)])) _
            refine st204.trans ?_
            show Steps p.tables e below (T204.setTop (mkF m 203 #[.val (.int p1), .val (.int p2), .val (.int p3), .val (.int p4), .val (.long q5), .second, .val (.int len), .val (.int (0 : Int32)), .val (.ref b178), .val (.ref b191), .val (.int (own_v3 (0 : Int32) len)), .val (.int len), .val (.int k), .unset, .unset, .unset] [])) _
            refine XS.iload X204.here hx rfl (hb hby at_203) rfl ?_
            exact k9)
        by_cases b208 : k.toInt = (0 : Int)
        · have hpk : ps204.toInt = 0 := by rw [hps204, (by assumption : k.toInt = (0 : Int))]; exact own_at_0 _
          obtain ⟨cq209, kq209, q209a, q209b, q209c⟩ := isOf hZ rfl E204x
          obtain ⟨_, _, ⟨T209, L209, k209, n209⟩, -, X209, ⟨Lc209, hQ209, l209, y209, z209⟩, st209⟩ := X204.virtualBack hx (y := (⟨"com/example/pesquisa/pesquisa/index/ByteSource", "hasMore", "()Z"⟩ : MethodName)) (z := (⟨"com/example/pesquisa/pesquisa/index/ByteSource", "hasMore", "()Z"⟩ : MethodName)) hown (mvT hZ (hw _ (List.mem_of_getElem? (i := 16) rfl))) (mvT hZ (hw _ (List.mem_of_getElem? (i := 17) rfl))) (notFace_of_selects (args := #[]) (mvT hZ (hw _ (List.mem_of_getElem? (i := 19) rfl)))) (mvT hZ (hw _ (List.mem_of_getElem? (i := 19) rfl))) (mvT hZ (hw _ (List.mem_of_getElem? (i := 18) rfl))) (by decide) (backOf (W := 0) (rm3 l Z a0 hw [] b191 len ps204 T204.heap n0 Z204 Fe204 Fp204) hZ (hw _ (List.mem_of_getElem? (i := 20) rfl)) (hw _ (List.mem_of_getElem? (i := 5) rfl)) (by decide) (by decide)) q209a q209c (g := (mkF m 230 #[.val (.int p1), .val (.int p2), .val (.int p3), .val (.int p4), .val (.long q5), .second, .val (.int len), .val (.int (0 : Int32)), .val (.ref b178), .val (.ref b191), .val (.int (own_v3 (0 : Int32) len)), .val (.int len), .val (.int k), .val (.int (0 : Int32)), .unset, .unset] [(.ref b191)])) rfl (by rw [hml]; rfl) (Steps.refl _) (argsL := []) (rest := []) (lenOf pd_0_1 rfl) rfl (by show 2 * 0 + _ ≤ _; exact Nat.le_of_eq rfl) (hb hby at_230) (fun _ _ => ⟨rfl, rfl, (by decide : 2 + 0 ≤ _), (by decide : 9 + 0 ≤ _)⟩)
          dsimp only [Pt.U, Pt.locs, Pt.cells, Pt.slots] at X209 l209 y209 z209 st209 hQ209
          subst l209 y209 z209
          obtain ⟨hv209, N209q, e209⟩ := hQ209
          subst hv209
          have N209 := Fr.app N204 N209q
          obtain ⟨cq210, kq210, q210a, q210b, q210c⟩ := isOf hZ e209 E204x
          obtain ⟨_, _, ⟨T210, L210, k210, n210⟩, -, X210, ⟨Lc210, hQ210, l210, y210, z210⟩, st210⟩ := X209.virtualBack hx (y := (⟨"com/example/pesquisa/pesquisa/index/ByteSource", "hasMore", "()Z"⟩ : MethodName)) (z := (⟨"com/example/pesquisa/pesquisa/index/ByteSource", "hasMore", "()Z"⟩ : MethodName)) hown (mvT hZ (hw _ (List.mem_of_getElem? (i := 16) rfl))) (mvT hZ (hw _ (List.mem_of_getElem? (i := 17) rfl))) (notFace_of_selects (args := #[]) (mvT hZ (hw _ (List.mem_of_getElem? (i := 19) rfl)))) (mvT hZ (hw _ (List.mem_of_getElem? (i := 19) rfl))) (mvT hZ (hw _ (List.mem_of_getElem? (i := 18) rfl))) (by decide) (backOf (W := 0) (rm3 l Z a0 hw [] b191 len ps204 T204.heap n0 Z204 Fe204 Fp204) hZ (hw _ (List.mem_of_getElem? (i := 20) rfl)) (hw _ (List.mem_of_getElem? (i := 5) rfl)) (by decide) (by decide)) q210a q210c (g := (mkF m 237 #[.val (.int p1), .val (.int p2), .val (.int p3), .val (.int p4), .val (.long q5), .second, .val (.int len), .val (.int (0 : Int32)), .val (.ref b178), .val (.ref b191), .val (.int (own_v3 (0 : Int32) len)), .val (.int len), .val (.int k), .val (.int (0 : Int32)), .val (.int (own_v3 ps204 len)), .unset] [(.ref b191)])) rfl (by rw [hml]; rfl) (Steps.refl _) (argsL := []) (rest := []) (lenOf pd_0_1 rfl) rfl (by show 2 * 0 + _ ≤ _; exact Nat.le_of_eq rfl) (hb hby at_237) (fun _ _ => ⟨rfl, e209, (by decide : 2 + 0 ≤ _), (by decide : 9 + 0 ≤ _)⟩)
          dsimp only [Pt.U, Pt.locs, Pt.cells, Pt.slots] at X210 l210 y210 z210 st210 hQ210
          subst l210 y210 z210
          obtain ⟨hv210, N210q, e210⟩ := hQ210
          subst hv210
          have N210 := Fr.app N209 N210q
          have pre211 : ∀ t, Steps p.tables e below (T210.setTop (mkF m 248 #[.val (.int p1), .val (.int p2), .val (.int p3), .val (.int p4), .val (.long q5), .second, .val (.int len), .val (.int (0 : Int32)), .val (.ref b178), .val (.ref b191), .val (.int (own_v3 (0 : Int32) len)), .val (.int len), .val (.int k), .val (.int (0 : Int32)), .val (.int (own_v3 ps204 len)), .val (.int (own_v3 ps204 len))] [(.int len), (.int (0 : Int32)), (.int (own_v3 ps204 len))])) t → Steps p.tables e below (s₁.setTop (entryFrame m #[(.int p1), (.int p2), (.int p3), (.int p4), (.long q5)] maxLocals)) t := fun t9 k9 => pre207 t9 (by
              show Steps p.tables e below (T204.setTop (mkF m 205 #[.val (.int p1), .val (.int p2), .val (.int p3), .val (.int p4), .val (.long q5), .second, .val (.int len), .val (.int (0 : Int32)), .val (.ref b178), .val (.ref b191), .val (.int (own_v3 (0 : Int32) len)), .val (.int len), .val (.int k), .unset, .unset, .unset] [(.int k)])) _
              refine XS.ifNo X204.here hx rfl (hb hby at_205) rfl ((if0 _ _).trans (own_ne_f (a := k.toInt) (b := (0 : Int)) rfl (by decide) b208)) ?_
              show Steps p.tables e below (T204.setTop (mkF m 208 #[.val (.int p1), .val (.int p2), .val (.int p3), .val (.int p4), .val (.long q5), .second, .val (.int len), .val (.int (0 : Int32)), .val (.ref b178), .val (.ref b191), .val (.int (own_v3 (0 : Int32) len)), .val (.int len), .val (.int k), .unset, .unset, .unset] [])) _
              refine XS.iconst X204.here hx rfl (hb hby at_208) ?_
              show Steps p.tables e below (T204.setTop (mkF m 209 #[.val (.int p1), .val (.int p2), .val (.int p3), .val (.int p4), .val (.long q5), .second, .val (.int len), .val (.int (0 : Int32)), .val (.ref b178), .val (.ref b191), .val (.int (own_v3 (0 : Int32) len)), .val (.int len), .val (.int k), .unset, .unset, .unset] [(.int (0 : Int32))])) _
              refine XS.goto X204.here hx rfl (pc0 := 209) (pc' := 226) rfl (hb hby at_209) (by decide) (by decide) ?_
              show Steps p.tables e below (T204.setTop (mkF m 226 #[.val (.int p1), .val (.int p2), .val (.int p3), .val (.int p4), .val (.long q5), .second, .val (.int len), .val (.int (0 : Int32)), .val (.ref b178), .val (.ref b191), .val (.int (own_v3 (0 : Int32) len)), .val (.int len), .val (.int k), .unset, .unset, .unset] [(.int (0 : Int32))])) _
              refine XS.istore X204.here hx rfl (hb hby at_226) rfl (l' := #[.val (.int p1), .val (.int p2), .val (.int p3), .val (.int p4), .val (.long q5), .second, .val (.int len), .val (.int (0 : Int32)), .val (.ref b178), .val (.ref b191), .val (.int (own_v3 (0 : Int32) len)), .val (.int len), .val (.int k), .val (.int (0 : Int32)), .unset, .unset]) rfl ?_
              show Steps p.tables e below (T204.setTop (mkF m 228 #[.val (.int p1), .val (.int p2), .val (.int p3), .val (.int p4), .val (.long q5), .second, .val (.int len), .val (.int (0 : Int32)), .val (.ref b178), .val (.ref b191), .val (.int (own_v3 (0 : Int32) len)), .val (.int len), .val (.int k), .val (.int (0 : Int32)), .unset, .unset] [])) _
              refine XS.aload X204.here hx rfl (hb hby at_228) rfl rfl ?_
              show Steps p.tables e below (T204.setTop (mkF m 230 #[.val (.int p1), .val (.int p2), .val (.int p3), .val (.int p4), .val (.long q5), .second, .val (.int len), .val (.int (0 : Int32)), .val (.ref b178), .val (.ref b191), .val (.int (own_v3 (0 : Int32) len)), .val (.int len), .val (.int k), .val (.int (0 : Int32)), .unset, .unset] [(.ref b191)])) _
              refine st209.trans ?_
              show Steps p.tables e below (T209.setTop (mkF m 233 #[.val (.int p1), .val (.int p2), .val (.int p3), .val (.int p4), .val (.long q5), .second, .val (.int len), .val (.int (0 : Int32)), .val (.ref b178), .val (.ref b191), .val (.int (own_v3 (0 : Int32) len)), .val (.int len), .val (.int k), .val (.int (0 : Int32)), .unset, .unset] [(.int (own_v3 ps204 len))])) _
              refine XS.istore X209.here hx rfl (hb hby at_233) rfl (l' := #[.val (.int p1), .val (.int p2), .val (.int p3), .val (.int p4), .val (.long q5), .second, .val (.int len), .val (.int (0 : Int32)), .val (.ref b178), .val (.ref b191), .val (.int (own_v3 (0 : Int32) len)), .val (.int len), .val (.int k), .val (.int (0 : Int32)), .val (.int (own_v3 ps204 len)), .unset]) rfl ?_
              show Steps p.tables e below (T209.setTop (mkF m 235 #[.val (.int p1), .val (.int p2), .val (.int p3), .val (.int p4), .val (.long q5), .second, .val (.int len), .val (.int (0 : Int32)), .val (.ref b178), .val (.ref b191), .val (.int (own_v3 (0 : Int32) len)), .val (.int len), .val (.int k), .val (.int (0 : Int32)), .val (.int (own_v3 ps204 len)), .unset] [])) _
              refine XS.aload X209.here hx rfl (hb hby at_235) rfl rfl ?_
              show Steps p.tables e below (T209.setTop (mkF m 237 #[.val (.int p1), .val (.int p2), .val (.int p3), .val (.int p4), .val (.long q5), .second, .val (.int len), .val (.int (0 : Int32)), .val (.ref b178), .val (.ref b191), .val (.int (own_v3 (0 : Int32) len)), .val (.int len), .val (.int k), .val (.int (0 : Int32)), .val (.int (own_v3 ps204 len)), .unset] [(.ref b191)])) _
              refine st210.trans ?_
              show Steps p.tables e below (T210.setTop (mkF m 240 #[.val (.int p1), .val (.int p2), .val (.int p3), .val (.int p4), .val (.long q5), .second, .val (.int len), .val (.int (0 : Int32)), .val (.ref b178), .val (.ref b191), .val (.int (own_v3 (0 : Int32) len)), .val (.int len), .val (.int k), .val (.int (0 : Int32)), .val (.int (own_v3 ps204 len)), .unset] [(.int (own_v3 ps204 len))])) _
              refine XS.istore X210.here hx rfl (hb hby at_240) rfl (l' := #[.val (.int p1), .val (.int p2), .val (.int p3), .val (.int p4), .val (.long q5), .second, .val (.int len), .val (.int (0 : Int32)), .val (.ref b178), .val (.ref b191), .val (.int (own_v3 (0 : Int32) len)), .val (.int len), .val (.int k), .val (.int (0 : Int32)), .val (.int (own_v3 ps204 len)), .val (.int (own_v3 ps204 len))]) rfl ?_
              show Steps p.tables e below (T210.setTop (mkF m 242 #[.val (.int p1), .val (.int p2), .val (.int p3), .val (.int p4), .val (.long q5), .second, .val (.int len), .val (.int (0 : Int32)), .val (.ref b178), .val (.ref b191), .val (.int (own_v3 (0 : Int32) len)), .val (.int len), .val (.int k), .val (.int (0 : Int32)), .val (.int (own_v3 ps204 len)), .val (.int (own_v3 ps204 len))] [])) _
              refine XS.iload X210.here hx rfl (hb hby at_242) rfl ?_
              show Steps p.tables e below (T210.setTop (mkF m 244 #[.val (.int p1), .val (.int p2), .val (.int p3), .val (.int p4), .val (.long q5), .second, .val (.int len), .val (.int (0 : Int32)), .val (.ref b178), .val (.ref b191), .val (.int (own_v3 (0 : Int32) len)), .val (.int len), .val (.int k), .val (.int (0 : Int32)), .val (.int (own_v3 ps204 len)), .val (.int (own_v3 ps204 len))] [(.int (own_v3 ps204 len))])) _
              refine XS.iload X210.here hx rfl (hb hby at_244) rfl ?_
              show Steps p.tables e below (T210.setTop (mkF m 246 #[.val (.int p1), .val (.int p2), .val (.int p3), .val (.int p4), .val (.long q5), .second, .val (.int len), .val (.int (0 : Int32)), .val (.ref b178), .val (.ref b191), .val (.int (own_v3 (0 : Int32) len)), .val (.int len), .val (.int k), .val (.int (0 : Int32)), .val (.int (own_v3 ps204 len)), .val (.int (own_v3 ps204 len))] [(.int (0 : Int32)), (.int (own_v3 ps204 len))])) _
              refine XS.iload X210.here hx rfl (hb hby at_246) rfl ?_
              exact k9)
          have b212 : (0 : Int) < len.toInt := by omega
          have pre213 : ∀ t, Steps p.tables e below (T210.setTop (mkF m 256 #[.val (.int p1), .val (.int p2), .val (.int p3), .val (.int p4), .val (.long q5), .second, .val (.int len), .val (.int (0 : Int32)), .val (.ref b178), .val (.ref b191), .val (.int (own_v3 (0 : Int32) len)), .val (.int len), .val (.int k), .val (.int (0 : Int32)), .val (.int (own_v3 ps204 len)), .val (.int (own_v3 ps204 len))] [(.int (1 : Int32)), (.int (own_v3 ps204 len))])) t → Steps p.tables e below (s₁.setTop (entryFrame m #[(.int p1), (.int p2), (.int p3), (.int p4), (.long q5)] maxLocals)) t := fun t9 k9 => pre211 t9 (by
              show Steps p.tables e below (T210.setTop (mkF m 248 #[.val (.int p1), .val (.int p2), .val (.int p3), .val (.int p4), .val (.long q5), .second, .val (.int len), .val (.int (0 : Int32)), .val (.ref b178), .val (.ref b191), .val (.int (own_v3 (0 : Int32) len)), .val (.int len), .val (.int k), .val (.int (0 : Int32)), .val (.int (own_v3 ps204 len)), .val (.int (own_v3 ps204 len))] [(.int len), (.int (0 : Int32)), (.int (own_v3 ps204 len))])) _
              refine XS.icmpNo X210.here hx rfl (hb hby at_248) rfl (own_ge_f (a := (0 : Int)) (b := len.toInt) (by decide) rfl b212) ?_
              show Steps p.tables e below (T210.setTop (mkF m 251 #[.val (.int p1), .val (.int p2), .val (.int p3), .val (.int p4), .val (.long q5), .second, .val (.int len), .val (.int (0 : Int32)), .val (.ref b178), .val (.ref b191), .val (.int (own_v3 (0 : Int32) len)), .val (.int len), .val (.int k), .val (.int (0 : Int32)), .val (.int (own_v3 ps204 len)), .val (.int (own_v3 ps204 len))] [(.int (own_v3 ps204 len))])) _
              refine XS.iconst X210.here hx rfl (hb hby at_251) ?_
              show Steps p.tables e below (T210.setTop (mkF m 252 #[.val (.int p1), .val (.int p2), .val (.int p3), .val (.int p4), .val (.long q5), .second, .val (.int len), .val (.int (0 : Int32)), .val (.ref b178), .val (.ref b191), .val (.int (own_v3 (0 : Int32) len)), .val (.int len), .val (.int k), .val (.int (0 : Int32)), .val (.int (own_v3 ps204 len)), .val (.int (own_v3 ps204 len))] [(.int (1 : Int32)), (.int (own_v3 ps204 len))])) _
              refine XS.goto X210.here hx rfl (pc0 := 252) (pc' := 256) rfl (hb hby at_252) (by decide) (by decide) ?_
              exact k9)
          have b214 : (own_v3 ps204 len).toInt = (1 : Int) := by (have h01 := own_v3_01 ps204 len; omega)
          have pre215 : ∀ t, Steps p.tables e below (T210.setTop (mkF m 263 #[.val (.int p1), .val (.int p2), .val (.int p3), .val (.int p4), .val (.long q5), .second, .val (.int len), .val (.int (0 : Int32)), .val (.ref b178), .val (.ref b191), .val (.int (own_v3 (0 : Int32) len)), .val (.int len), .val (.int k), .val (.int (0 : Int32)), .val (.int (own_v3 ps204 len)), .val (.int (own_v3 ps204 len))] [(.int (own_v3 ps204 len)), (.int (own_v3 ps204 len))])) t → Steps p.tables e below (s₁.setTop (entryFrame m #[(.int p1), (.int p2), (.int p3), (.int p4), (.long q5)] maxLocals)) t := fun t9 k9 => pre213 t9 (by
              show Steps p.tables e below (T210.setTop (mkF m 256 #[.val (.int p1), .val (.int p2), .val (.int p3), .val (.int p4), .val (.long q5), .second, .val (.int len), .val (.int (0 : Int32)), .val (.ref b178), .val (.ref b191), .val (.int (own_v3 (0 : Int32) len)), .val (.int len), .val (.int k), .val (.int (0 : Int32)), .val (.int (own_v3 ps204 len)), .val (.int (own_v3 ps204 len))] [(.int (1 : Int32)), (.int (own_v3 ps204 len))])) _
              refine XS.icmpNo X210.here hx rfl (hb hby at_256) rfl (own_ne_f (a := (own_v3 ps204 len).toInt) (b := (1 : Int)) rfl (by decide) b214) ?_
              show Steps p.tables e below (T210.setTop (mkF m 259 #[.val (.int p1), .val (.int p2), .val (.int p3), .val (.int p4), .val (.long q5), .second, .val (.int len), .val (.int (0 : Int32)), .val (.ref b178), .val (.ref b191), .val (.int (own_v3 (0 : Int32) len)), .val (.int len), .val (.int k), .val (.int (0 : Int32)), .val (.int (own_v3 ps204 len)), .val (.int (own_v3 ps204 len))] [])) _
              refine XS.iload X210.here hx rfl (hb hby at_259) rfl ?_
              show Steps p.tables e below (T210.setTop (mkF m 261 #[.val (.int p1), .val (.int p2), .val (.int p3), .val (.int p4), .val (.long q5), .second, .val (.int len), .val (.int (0 : Int32)), .val (.ref b178), .val (.ref b191), .val (.int (own_v3 (0 : Int32) len)), .val (.int len), .val (.int k), .val (.int (0 : Int32)), .val (.int (own_v3 ps204 len)), .val (.int (own_v3 ps204 len))] [(.int (own_v3 ps204 len))])) _
              refine XS.iload X210.here hx rfl (hb hby at_261) rfl ?_
              exact k9)
          have b216 : (own_v3 ps204 len).toInt = (own_v3 ps204 len).toInt := by rfl
          have pre217 : ∀ t, Steps p.tables e below (T210.setTop (mkF m 271 #[.val (.int p1), .val (.int p2), .val (.int p3), .val (.int p4), .val (.long q5), .second, .val (.int len), .val (.int (0 : Int32)), .val (.ref b178), .val (.ref b191), .val (.int (own_v3 (0 : Int32) len)), .val (.int len), .val (.int k), .val (.int (0 : Int32)), .val (.int (own_v3 ps204 len)), .val (.int (own_v3 ps204 len))] [(.int (1 : Int32))])) t → Steps p.tables e below (s₁.setTop (entryFrame m #[(.int p1), (.int p2), (.int p3), (.int p4), (.long q5)] maxLocals)) t := fun t9 k9 => pre215 t9 (by
              show Steps p.tables e below (T210.setTop (mkF m 263 #[.val (.int p1), .val (.int p2), .val (.int p3), .val (.int p4), .val (.long q5), .second, .val (.int len), .val (.int (0 : Int32)), .val (.ref b178), .val (.ref b191), .val (.int (own_v3 (0 : Int32) len)), .val (.int len), .val (.int k), .val (.int (0 : Int32)), .val (.int (own_v3 ps204 len)), .val (.int (own_v3 ps204 len))] [(.int (own_v3 ps204 len)), (.int (own_v3 ps204 len))])) _
              refine XS.icmpNo X210.here hx rfl (hb hby at_263) rfl (own_ne_f (a := (own_v3 ps204 len).toInt) (b := (own_v3 ps204 len).toInt) rfl rfl b216) ?_
              show Steps p.tables e below (T210.setTop (mkF m 266 #[.val (.int p1), .val (.int p2), .val (.int p3), .val (.int p4), .val (.long q5), .second, .val (.int len), .val (.int (0 : Int32)), .val (.ref b178), .val (.ref b191), .val (.int (own_v3 (0 : Int32) len)), .val (.int len), .val (.int k), .val (.int (0 : Int32)), .val (.int (own_v3 ps204 len)), .val (.int (own_v3 ps204 len))] [])) _
              refine XS.iconst X210.here hx rfl (hb hby at_266) ?_
              show Steps p.tables e below (T210.setTop (mkF m 267 #[.val (.int p1), .val (.int p2), .val (.int p3), .val (.int p4), .val (.long q5), .second, .val (.int len), .val (.int (0 : Int32)), .val (.ref b178), .val (.ref b191), .val (.int (own_v3 (0 : Int32) len)), .val (.int len), .val (.int k), .val (.int (0 : Int32)), .val (.int (own_v3 ps204 len)), .val (.int (own_v3 ps204 len))] [(.int (1 : Int32))])) _
              refine XS.goto X210.here hx rfl (pc0 := 267) (pc' := 271) rfl (hb hby at_267) (by decide) (by decide) ?_
              exact k9)
          obtain ⟨fs, hr, hrun, hended, hW, hsame⟩ := X210.leave (v := some (.int (1 : Int32))) (fun h => by rw [Bd.returns] at h; cases h)
          refine ⟨_, _, pre217 _ ?_, hrun, hended, _, _, rfl, ?_, ⟨_, rfl⟩, hW, hsame.mono (by decide) (by decide)⟩
          · show Steps p.tables e below (T210.setTop (mkF m 271 #[.val (.int p1), .val (.int p2), .val (.int p3), .val (.int p4), .val (.long q5), .second, .val (.int len), .val (.int (0 : Int32)), .val (.ref b178), .val (.ref b191), .val (.int (own_v3 (0 : Int32) len)), .val (.int len), .val (.int k), .val (.int (0 : Int32)), .val (.int (own_v3 ps204 len)), .val (.int (own_v3 ps204 len))] [(.int (1 : Int32))])) _
            exact retN X210 hx (t := .boolean) Bd.returns (by simp) (hb hby at_271) hr
          · show Q0 Z p1 p2 p3 p4 q5 h0 n0 _ T210.heap _
            rw [e210]
            exact ⟨rfl, N210⟩
        · have hpk : ps204.toInt = k.toInt + 0 := by rw [hps204]; exact own_at_s _ _ (by assumption)
          obtain ⟨cq218, kq218, q218a, q218b, q218c⟩ := isOf hZ rfl E204x
          obtain ⟨_, _, ⟨T218, L218, k218, n218⟩, -, X218, ⟨Lc218, hQ218, l218, y218, z218⟩, st218⟩ := X204.virtualBack hx (y := (⟨"com/example/pesquisa/pesquisa/index/ByteSource", "hasMore", "()Z"⟩ : MethodName)) (z := (⟨"com/example/pesquisa/pesquisa/index/ByteSource", "hasMore", "()Z"⟩ : MethodName)) hown (mvT hZ (hw _ (List.mem_of_getElem? (i := 16) rfl))) (mvT hZ (hw _ (List.mem_of_getElem? (i := 17) rfl))) (notFace_of_selects (args := #[]) (mvT hZ (hw _ (List.mem_of_getElem? (i := 19) rfl)))) (mvT hZ (hw _ (List.mem_of_getElem? (i := 19) rfl))) (mvT hZ (hw _ (List.mem_of_getElem? (i := 18) rfl))) (by decide) (backOf (W := 0) (rm3 l Z a0 hw [] b191 len ps204 T204.heap n0 Z204 Fe204 Fp204) hZ (hw _ (List.mem_of_getElem? (i := 20) rfl)) (hw _ (List.mem_of_getElem? (i := 5) rfl)) (by decide) (by decide)) q218a q218c (g := (mkF m 230 #[.val (.int p1), .val (.int p2), .val (.int p3), .val (.int p4), .val (.long q5), .second, .val (.int len), .val (.int (0 : Int32)), .val (.ref b178), .val (.ref b191), .val (.int (own_v3 (0 : Int32) len)), .val (.int len), .val (.int k), .val (.int k), .unset, .unset] [(.ref b191)])) rfl (by rw [hml]; rfl) (Steps.refl _) (argsL := []) (rest := []) (lenOf pd_0_1 rfl) rfl (by show 2 * 0 + _ ≤ _; exact Nat.le_of_eq rfl) (hb hby at_230) (fun _ _ => ⟨rfl, rfl, (by decide : 2 + 0 ≤ _), (by decide : 9 + 0 ≤ _)⟩)
          dsimp only [Pt.U, Pt.locs, Pt.cells, Pt.slots] at X218 l218 y218 z218 st218 hQ218
          subst l218 y218 z218
          obtain ⟨hv218, N218q, e218⟩ := hQ218
          subst hv218
          have N218 := Fr.app N204 N218q
          obtain ⟨cq219, kq219, q219a, q219b, q219c⟩ := isOf hZ e218 E204x
          obtain ⟨_, _, ⟨T219, L219, k219, n219⟩, -, X219, ⟨Lc219, hQ219, l219, y219, z219⟩, st219⟩ := X218.virtualBack hx (y := (⟨"com/example/pesquisa/pesquisa/index/ByteSource", "hasMore", "()Z"⟩ : MethodName)) (z := (⟨"com/example/pesquisa/pesquisa/index/ByteSource", "hasMore", "()Z"⟩ : MethodName)) hown (mvT hZ (hw _ (List.mem_of_getElem? (i := 16) rfl))) (mvT hZ (hw _ (List.mem_of_getElem? (i := 17) rfl))) (notFace_of_selects (args := #[]) (mvT hZ (hw _ (List.mem_of_getElem? (i := 19) rfl)))) (mvT hZ (hw _ (List.mem_of_getElem? (i := 19) rfl))) (mvT hZ (hw _ (List.mem_of_getElem? (i := 18) rfl))) (by decide) (backOf (W := 0) (rm3 l Z a0 hw [] b191 len ps204 T204.heap n0 Z204 Fe204 Fp204) hZ (hw _ (List.mem_of_getElem? (i := 20) rfl)) (hw _ (List.mem_of_getElem? (i := 5) rfl)) (by decide) (by decide)) q219a q219c (g := (mkF m 237 #[.val (.int p1), .val (.int p2), .val (.int p3), .val (.int p4), .val (.long q5), .second, .val (.int len), .val (.int (0 : Int32)), .val (.ref b178), .val (.ref b191), .val (.int (own_v3 (0 : Int32) len)), .val (.int len), .val (.int k), .val (.int k), .val (.int (own_v3 ps204 len)), .unset] [(.ref b191)])) rfl (by rw [hml]; rfl) (Steps.refl _) (argsL := []) (rest := []) (lenOf pd_0_1 rfl) rfl (by show 2 * 0 + _ ≤ _; exact Nat.le_of_eq rfl) (hb hby at_237) (fun _ _ => ⟨rfl, e218, (by decide : 2 + 0 ≤ _), (by decide : 9 + 0 ≤ _)⟩)
          dsimp only [Pt.U, Pt.locs, Pt.cells, Pt.slots] at X219 l219 y219 z219 st219 hQ219
          subst l219 y219 z219
          obtain ⟨hv219, N219q, e219⟩ := hQ219
          subst hv219
          have N219 := Fr.app N218 N219q
          have pre220 : ∀ t, Steps p.tables e below (T219.setTop (mkF m 248 #[.val (.int p1), .val (.int p2), .val (.int p3), .val (.int p4), .val (.long q5), .second, .val (.int len), .val (.int (0 : Int32)), .val (.ref b178), .val (.ref b191), .val (.int (own_v3 (0 : Int32) len)), .val (.int len), .val (.int k), .val (.int k), .val (.int (own_v3 ps204 len)), .val (.int (own_v3 ps204 len))] [(.int len), (.int k), (.int (own_v3 ps204 len))])) t → Steps p.tables e below (s₁.setTop (entryFrame m #[(.int p1), (.int p2), (.int p3), (.int p4), (.long q5)] maxLocals)) t := fun t9 k9 => pre207 t9 (by
              show Steps p.tables e below (T204.setTop (mkF m 205 #[.val (.int p1), .val (.int p2), .val (.int p3), .val (.int p4), .val (.long q5), .second, .val (.int len), .val (.int (0 : Int32)), .val (.ref b178), .val (.ref b191), .val (.int (own_v3 (0 : Int32) len)), .val (.int len), .val (.int k), .unset, .unset, .unset] [(.int k)])) _
              refine XS.ifYes X204.here hx rfl (pc0 := 205) (pc' := 212) rfl (hb hby at_205) rfl ((if0 _ _).trans (own_ne_t (a := k.toInt) (b := (0 : Int)) rfl (by decide) b208)) (by decide) (by decide) ?_
              show Steps p.tables e below (T204.setTop (mkF m 212 #[.val (.int p1), .val (.int p2), .val (.int p3), .val (.int p4), .val (.long q5), .second, .val (.int len), .val (.int (0 : Int32)), .val (.ref b178), .val (.ref b191), .val (.int (own_v3 (0 : Int32) len)), .val (.int len), .val (.int k), .unset, .unset, .unset] [])) _
              refine XS.iload X204.here hx rfl (hb hby at_212) rfl ?_
              show Steps p.tables e below (T204.setTop (mkF m 214 #[.val (.int p1), .val (.int p2), .val (.int p3), .val (.int p4), .val (.long q5), .second, .val (.int len), .val (.int (0 : Int32)), .val (.ref b178), .val (.ref b191), .val (.int (own_v3 (0 : Int32) len)), .val (.int len), .val (.int k), .unset, .unset, .unset] [(.int (0 : Int32))])) _
              refine XS.ifYes X204.here hx rfl (pc0 := 214) (pc' := 224) rfl (hb hby at_214) rfl ((if0 _ _).trans (own_eq_t (a := (0 : Int)) (b := (0 : Int)) (by decide) (by decide) (by decide))) (by decide) (by decide) ?_
              show Steps p.tables e below (T204.setTop (mkF m 224 #[.val (.int p1), .val (.int p2), .val (.int p3), .val (.int p4), .val (.long q5), .second, .val (.int len), .val (.int (0 : Int32)), .val (.ref b178), .val (.ref b191), .val (.int (own_v3 (0 : Int32) len)), .val (.int len), .val (.int k), .unset, .unset, .unset] [])) _
              refine XS.iload X204.here hx rfl (hb hby at_224) rfl ?_
              show Steps p.tables e below (T204.setTop (mkF m 226 #[.val (.int p1), .val (.int p2), .val (.int p3), .val (.int p4), .val (.long q5), .second, .val (.int len), .val (.int (0 : Int32)), .val (.ref b178), .val (.ref b191), .val (.int (own_v3 (0 : Int32) len)), .val (.int len), .val (.int k), .unset, .unset, .unset] [(.int k)])) _
              refine XS.istore X204.here hx rfl (hb hby at_226) rfl (l' := #[.val (.int p1), .val (.int p2), .val (.int p3), .val (.int p4), .val (.long q5), .second, .val (.int len), .val (.int (0 : Int32)), .val (.ref b178), .val (.ref b191), .val (.int (own_v3 (0 : Int32) len)), .val (.int len), .val (.int k), .val (.int k), .unset, .unset]) rfl ?_
              show Steps p.tables e below (T204.setTop (mkF m 228 #[.val (.int p1), .val (.int p2), .val (.int p3), .val (.int p4), .val (.long q5), .second, .val (.int len), .val (.int (0 : Int32)), .val (.ref b178), .val (.ref b191), .val (.int (own_v3 (0 : Int32) len)), .val (.int len), .val (.int k), .val (.int k), .unset, .unset] [])) _
              refine XS.aload X204.here hx rfl (hb hby at_228) rfl rfl ?_
              show Steps p.tables e below (T204.setTop (mkF m 230 #[.val (.int p1), .val (.int p2), .val (.int p3), .val (.int p4), .val (.long q5), .second, .val (.int len), .val (.int (0 : Int32)), .val (.ref b178), .val (.ref b191), .val (.int (own_v3 (0 : Int32) len)), .val (.int len), .val (.int k), .val (.int k), .unset, .unset] [(.ref b191)])) _
              refine st218.trans ?_
              show Steps p.tables e below (T218.setTop (mkF m 233 #[.val (.int p1), .val (.int p2), .val (.int p3), .val (.int p4), .val (.long q5), .second, .val (.int len), .val (.int (0 : Int32)), .val (.ref b178), .val (.ref b191), .val (.int (own_v3 (0 : Int32) len)), .val (.int len), .val (.int k), .val (.int k), .unset, .unset] [(.int (own_v3 ps204 len))])) _
              refine XS.istore X218.here hx rfl (hb hby at_233) rfl (l' := #[.val (.int p1), .val (.int p2), .val (.int p3), .val (.int p4), .val (.long q5), .second, .val (.int len), .val (.int (0 : Int32)), .val (.ref b178), .val (.ref b191), .val (.int (own_v3 (0 : Int32) len)), .val (.int len), .val (.int k), .val (.int k), .val (.int (own_v3 ps204 len)), .unset]) rfl ?_
              show Steps p.tables e below (T218.setTop (mkF m 235 #[.val (.int p1), .val (.int p2), .val (.int p3), .val (.int p4), .val (.long q5), .second, .val (.int len), .val (.int (0 : Int32)), .val (.ref b178), .val (.ref b191), .val (.int (own_v3 (0 : Int32) len)), .val (.int len), .val (.int k), .val (.int k), .val (.int (own_v3 ps204 len)), .unset] [])) _
              refine XS.aload X218.here hx rfl (hb hby at_235) rfl rfl ?_
              show Steps p.tables e below (T218.setTop (mkF m 237 #[.val (.int p1), .val (.int p2), .val (.int p3), .val (.int p4), .val (.long q5), .second, .val (.int len), .val (.int (0 : Int32)), .val (.ref b178), .val (.ref b191), .val (.int (own_v3 (0 : Int32) len)), .val (.int len), .val (.int k), .val (.int k), .val (.int (own_v3 ps204 len)), .unset] [(.ref b191)])) _
              refine st219.trans ?_
              show Steps p.tables e below (T219.setTop (mkF m 240 #[.val (.int p1), .val (.int p2), .val (.int p3), .val (.int p4), .val (.long q5), .second, .val (.int len), .val (.int (0 : Int32)), .val (.ref b178), .val (.ref b191), .val (.int (own_v3 (0 : Int32) len)), .val (.int len), .val (.int k), .val (.int k), .val (.int (own_v3 ps204 len)), .unset] [(.int (own_v3 ps204 len))])) _
              refine XS.istore X219.here hx rfl (hb hby at_240) rfl (l' := #[.val (.int p1), .val (.int p2), .val (.int p3), .val (.int p4), .val (.long q5), .second, .val (.int len), .val (.int (0 : Int32)), .val (.ref b178), .val (.ref b191), .val (.int (own_v3 (0 : Int32) len)), .val (.int len), .val (.int k), .val (.int k), .val (.int (own_v3 ps204 len)), .val (.int (own_v3 ps204 len))]) rfl ?_
              show Steps p.tables e below (T219.setTop (mkF m 242 #[.val (.int p1), .val (.int p2), .val (.int p3), .val (.int p4), .val (.long q5), .second, .val (.int len), .val (.int (0 : Int32)), .val (.ref b178), .val (.ref b191), .val (.int (own_v3 (0 : Int32) len)), .val (.int len), .val (.int k), .val (.int k), .val (.int (own_v3 ps204 len)), .val (.int (own_v3 ps204 len))] [])) _
              refine XS.iload X219.here hx rfl (hb hby at_242) rfl ?_
              show Steps p.tables e below (T219.setTop (mkF m 244 #[.val (.int p1), .val (.int p2), .val (.int p3), .val (.int p4), .val (.long q5), .second, .val (.int len), .val (.int (0 : Int32)), .val (.ref b178), .val (.ref b191), .val (.int (own_v3 (0 : Int32) len)), .val (.int len), .val (.int k), .val (.int k), .val (.int (own_v3 ps204 len)), .val (.int (own_v3 ps204 len))] [(.int (own_v3 ps204 len))])) _
              refine XS.iload X219.here hx rfl (hb hby at_244) rfl ?_
              show Steps p.tables e below (T219.setTop (mkF m 246 #[.val (.int p1), .val (.int p2), .val (.int p3), .val (.int p4), .val (.long q5), .second, .val (.int len), .val (.int (0 : Int32)), .val (.ref b178), .val (.ref b191), .val (.int (own_v3 (0 : Int32) len)), .val (.int len), .val (.int k), .val (.int k), .val (.int (own_v3 ps204 len)), .val (.int (own_v3 ps204 len))] [(.int k), (.int (own_v3 ps204 len))])) _
              refine XS.iload X219.here hx rfl (hb hby at_246) rfl ?_
              exact k9)
          by_cases b221 : k.toInt < len.toInt
          · have pre222 : ∀ t, Steps p.tables e below (T219.setTop (mkF m 256 #[.val (.int p1), .val (.int p2), .val (.int p3), .val (.int p4), .val (.long q5), .second, .val (.int len), .val (.int (0 : Int32)), .val (.ref b178), .val (.ref b191), .val (.int (own_v3 (0 : Int32) len)), .val (.int len), .val (.int k), .val (.int k), .val (.int (own_v3 ps204 len)), .val (.int (own_v3 ps204 len))] [(.int (1 : Int32)), (.int (own_v3 ps204 len))])) t → Steps p.tables e below (s₁.setTop (entryFrame m #[(.int p1), (.int p2), (.int p3), (.int p4), (.long q5)] maxLocals)) t := fun t9 k9 => pre220 t9 (by
                show Steps p.tables e below (T219.setTop (mkF m 248 #[.val (.int p1), .val (.int p2), .val (.int p3), .val (.int p4), .val (.long q5), .second, .val (.int len), .val (.int (0 : Int32)), .val (.ref b178), .val (.ref b191), .val (.int (own_v3 (0 : Int32) len)), .val (.int len), .val (.int k), .val (.int k), .val (.int (own_v3 ps204 len)), .val (.int (own_v3 ps204 len))] [(.int len), (.int k), (.int (own_v3 ps204 len))])) _
                refine XS.icmpNo X219.here hx rfl (hb hby at_248) rfl (own_ge_f (a := k.toInt) (b := len.toInt) rfl rfl b221) ?_
                show Steps p.tables e below (T219.setTop (mkF m 251 #[.val (.int p1), .val (.int p2), .val (.int p3), .val (.int p4), .val (.long q5), .second, .val (.int len), .val (.int (0 : Int32)), .val (.ref b178), .val (.ref b191), .val (.int (own_v3 (0 : Int32) len)), .val (.int len), .val (.int k), .val (.int k), .val (.int (own_v3 ps204 len)), .val (.int (own_v3 ps204 len))] [(.int (own_v3 ps204 len))])) _
                refine XS.iconst X219.here hx rfl (hb hby at_251) ?_
                show Steps p.tables e below (T219.setTop (mkF m 252 #[.val (.int p1), .val (.int p2), .val (.int p3), .val (.int p4), .val (.long q5), .second, .val (.int len), .val (.int (0 : Int32)), .val (.ref b178), .val (.ref b191), .val (.int (own_v3 (0 : Int32) len)), .val (.int len), .val (.int k), .val (.int k), .val (.int (own_v3 ps204 len)), .val (.int (own_v3 ps204 len))] [(.int (1 : Int32)), (.int (own_v3 ps204 len))])) _
                refine XS.goto X219.here hx rfl (pc0 := 252) (pc' := 256) rfl (hb hby at_252) (by decide) (by decide) ?_
                exact k9)
            have b223 : (own_v3 ps204 len).toInt = (1 : Int) := by (have h01 := own_v3_01 ps204 len; omega)
            have pre224 : ∀ t, Steps p.tables e below (T219.setTop (mkF m 263 #[.val (.int p1), .val (.int p2), .val (.int p3), .val (.int p4), .val (.long q5), .second, .val (.int len), .val (.int (0 : Int32)), .val (.ref b178), .val (.ref b191), .val (.int (own_v3 (0 : Int32) len)), .val (.int len), .val (.int k), .val (.int k), .val (.int (own_v3 ps204 len)), .val (.int (own_v3 ps204 len))] [(.int (own_v3 ps204 len)), (.int (own_v3 ps204 len))])) t → Steps p.tables e below (s₁.setTop (entryFrame m #[(.int p1), (.int p2), (.int p3), (.int p4), (.long q5)] maxLocals)) t := fun t9 k9 => pre222 t9 (by
                show Steps p.tables e below (T219.setTop (mkF m 256 #[.val (.int p1), .val (.int p2), .val (.int p3), .val (.int p4), .val (.long q5), .second, .val (.int len), .val (.int (0 : Int32)), .val (.ref b178), .val (.ref b191), .val (.int (own_v3 (0 : Int32) len)), .val (.int len), .val (.int k), .val (.int k), .val (.int (own_v3 ps204 len)), .val (.int (own_v3 ps204 len))] [(.int (1 : Int32)), (.int (own_v3 ps204 len))])) _
                refine XS.icmpNo X219.here hx rfl (hb hby at_256) rfl (own_ne_f (a := (own_v3 ps204 len).toInt) (b := (1 : Int)) rfl (by decide) b223) ?_
                show Steps p.tables e below (T219.setTop (mkF m 259 #[.val (.int p1), .val (.int p2), .val (.int p3), .val (.int p4), .val (.long q5), .second, .val (.int len), .val (.int (0 : Int32)), .val (.ref b178), .val (.ref b191), .val (.int (own_v3 (0 : Int32) len)), .val (.int len), .val (.int k), .val (.int k), .val (.int (own_v3 ps204 len)), .val (.int (own_v3 ps204 len))] [])) _
                refine XS.iload X219.here hx rfl (hb hby at_259) rfl ?_
                show Steps p.tables e below (T219.setTop (mkF m 261 #[.val (.int p1), .val (.int p2), .val (.int p3), .val (.int p4), .val (.long q5), .second, .val (.int len), .val (.int (0 : Int32)), .val (.ref b178), .val (.ref b191), .val (.int (own_v3 (0 : Int32) len)), .val (.int len), .val (.int k), .val (.int k), .val (.int (own_v3 ps204 len)), .val (.int (own_v3 ps204 len))] [(.int (own_v3 ps204 len))])) _
                refine XS.iload X219.here hx rfl (hb hby at_261) rfl ?_
                exact k9)
            have b225 : (own_v3 ps204 len).toInt = (own_v3 ps204 len).toInt := by rfl
            have pre226 : ∀ t, Steps p.tables e below (T219.setTop (mkF m 271 #[.val (.int p1), .val (.int p2), .val (.int p3), .val (.int p4), .val (.long q5), .second, .val (.int len), .val (.int (0 : Int32)), .val (.ref b178), .val (.ref b191), .val (.int (own_v3 (0 : Int32) len)), .val (.int len), .val (.int k), .val (.int k), .val (.int (own_v3 ps204 len)), .val (.int (own_v3 ps204 len))] [(.int (1 : Int32))])) t → Steps p.tables e below (s₁.setTop (entryFrame m #[(.int p1), (.int p2), (.int p3), (.int p4), (.long q5)] maxLocals)) t := fun t9 k9 => pre224 t9 (by
                show Steps p.tables e below (T219.setTop (mkF m 263 #[.val (.int p1), .val (.int p2), .val (.int p3), .val (.int p4), .val (.long q5), .second, .val (.int len), .val (.int (0 : Int32)), .val (.ref b178), .val (.ref b191), .val (.int (own_v3 (0 : Int32) len)), .val (.int len), .val (.int k), .val (.int k), .val (.int (own_v3 ps204 len)), .val (.int (own_v3 ps204 len))] [(.int (own_v3 ps204 len)), (.int (own_v3 ps204 len))])) _
                refine XS.icmpNo X219.here hx rfl (hb hby at_263) rfl (own_ne_f (a := (own_v3 ps204 len).toInt) (b := (own_v3 ps204 len).toInt) rfl rfl b225) ?_
                show Steps p.tables e below (T219.setTop (mkF m 266 #[.val (.int p1), .val (.int p2), .val (.int p3), .val (.int p4), .val (.long q5), .second, .val (.int len), .val (.int (0 : Int32)), .val (.ref b178), .val (.ref b191), .val (.int (own_v3 (0 : Int32) len)), .val (.int len), .val (.int k), .val (.int k), .val (.int (own_v3 ps204 len)), .val (.int (own_v3 ps204 len))] [])) _
                refine XS.iconst X219.here hx rfl (hb hby at_266) ?_
                show Steps p.tables e below (T219.setTop (mkF m 267 #[.val (.int p1), .val (.int p2), .val (.int p3), .val (.int p4), .val (.long q5), .second, .val (.int len), .val (.int (0 : Int32)), .val (.ref b178), .val (.ref b191), .val (.int (own_v3 (0 : Int32) len)), .val (.int len), .val (.int k), .val (.int k), .val (.int (own_v3 ps204 len)), .val (.int (own_v3 ps204 len))] [(.int (1 : Int32))])) _
                refine XS.goto X219.here hx rfl (pc0 := 267) (pc' := 271) rfl (hb hby at_267) (by decide) (by decide) ?_
                exact k9)
            obtain ⟨fs, hr, hrun, hended, hW, hsame⟩ := X219.leave (v := some (.int (1 : Int32))) (fun h => by rw [Bd.returns] at h; cases h)
            refine ⟨_, _, pre226 _ ?_, hrun, hended, _, _, rfl, ?_, ⟨_, rfl⟩, hW, hsame.mono (by decide) (by decide)⟩
            · show Steps p.tables e below (T219.setTop (mkF m 271 #[.val (.int p1), .val (.int p2), .val (.int p3), .val (.int p4), .val (.long q5), .second, .val (.int len), .val (.int (0 : Int32)), .val (.ref b178), .val (.ref b191), .val (.int (own_v3 (0 : Int32) len)), .val (.int len), .val (.int k), .val (.int k), .val (.int (own_v3 ps204 len)), .val (.int (own_v3 ps204 len))] [(.int (1 : Int32))])) _
              exact retN X219 hx (t := .boolean) Bd.returns (by simp) (hb hby at_271) hr
            · show Q0 Z p1 p2 p3 p4 q5 h0 n0 _ T219.heap _
              rw [e219]
              exact ⟨rfl, N219⟩
          · have pre227 : ∀ t, Steps p.tables e below (T219.setTop (mkF m 256 #[.val (.int p1), .val (.int p2), .val (.int p3), .val (.int p4), .val (.long q5), .second, .val (.int len), .val (.int (0 : Int32)), .val (.ref b178), .val (.ref b191), .val (.int (own_v3 (0 : Int32) len)), .val (.int len), .val (.int k), .val (.int k), .val (.int (own_v3 ps204 len)), .val (.int (own_v3 ps204 len))] [(.int (0 : Int32)), (.int (own_v3 ps204 len))])) t → Steps p.tables e below (s₁.setTop (entryFrame m #[(.int p1), (.int p2), (.int p3), (.int p4), (.long q5)] maxLocals)) t := fun t9 k9 => pre220 t9 (by
                show Steps p.tables e below (T219.setTop (mkF m 248 #[.val (.int p1), .val (.int p2), .val (.int p3), .val (.int p4), .val (.long q5), .second, .val (.int len), .val (.int (0 : Int32)), .val (.ref b178), .val (.ref b191), .val (.int (own_v3 (0 : Int32) len)), .val (.int len), .val (.int k), .val (.int k), .val (.int (own_v3 ps204 len)), .val (.int (own_v3 ps204 len))] [(.int len), (.int k), (.int (own_v3 ps204 len))])) _
                refine XS.icmpYes X219.here hx rfl (pc0 := 248) (pc' := 255) rfl (hb hby at_248) rfl (own_ge_t (a := k.toInt) (b := len.toInt) rfl rfl b221) (by decide) (by decide) ?_
                show Steps p.tables e below (T219.setTop (mkF m 255 #[.val (.int p1), .val (.int p2), .val (.int p3), .val (.int p4), .val (.long q5), .second, .val (.int len), .val (.int (0 : Int32)), .val (.ref b178), .val (.ref b191), .val (.int (own_v3 (0 : Int32) len)), .val (.int len), .val (.int k), .val (.int k), .val (.int (own_v3 ps204 len)), .val (.int (own_v3 ps204 len))] [(.int (own_v3 ps204 len))])) _
                refine XS.iconst X219.here hx rfl (hb hby at_255) ?_
                exact k9)
            have b228 : (own_v3 ps204 len).toInt = (0 : Int) := by (have h01 := own_v3_01 ps204 len; omega)
            have pre229 : ∀ t, Steps p.tables e below (T219.setTop (mkF m 263 #[.val (.int p1), .val (.int p2), .val (.int p3), .val (.int p4), .val (.long q5), .second, .val (.int len), .val (.int (0 : Int32)), .val (.ref b178), .val (.ref b191), .val (.int (own_v3 (0 : Int32) len)), .val (.int len), .val (.int k), .val (.int k), .val (.int (own_v3 ps204 len)), .val (.int (own_v3 ps204 len))] [(.int (own_v3 ps204 len)), (.int (own_v3 ps204 len))])) t → Steps p.tables e below (s₁.setTop (entryFrame m #[(.int p1), (.int p2), (.int p3), (.int p4), (.long q5)] maxLocals)) t := fun t9 k9 => pre227 t9 (by
                show Steps p.tables e below (T219.setTop (mkF m 256 #[.val (.int p1), .val (.int p2), .val (.int p3), .val (.int p4), .val (.long q5), .second, .val (.int len), .val (.int (0 : Int32)), .val (.ref b178), .val (.ref b191), .val (.int (own_v3 (0 : Int32) len)), .val (.int len), .val (.int k), .val (.int k), .val (.int (own_v3 ps204 len)), .val (.int (own_v3 ps204 len))] [(.int (0 : Int32)), (.int (own_v3 ps204 len))])) _
                refine XS.icmpNo X219.here hx rfl (hb hby at_256) rfl (own_ne_f (a := (own_v3 ps204 len).toInt) (b := (0 : Int)) rfl (by decide) b228) ?_
                show Steps p.tables e below (T219.setTop (mkF m 259 #[.val (.int p1), .val (.int p2), .val (.int p3), .val (.int p4), .val (.long q5), .second, .val (.int len), .val (.int (0 : Int32)), .val (.ref b178), .val (.ref b191), .val (.int (own_v3 (0 : Int32) len)), .val (.int len), .val (.int k), .val (.int k), .val (.int (own_v3 ps204 len)), .val (.int (own_v3 ps204 len))] [])) _
                refine XS.iload X219.here hx rfl (hb hby at_259) rfl ?_
                show Steps p.tables e below (T219.setTop (mkF m 261 #[.val (.int p1), .val (.int p2), .val (.int p3), .val (.int p4), .val (.long q5), .second, .val (.int len), .val (.int (0 : Int32)), .val (.ref b178), .val (.ref b191), .val (.int (own_v3 (0 : Int32) len)), .val (.int len), .val (.int k), .val (.int k), .val (.int (own_v3 ps204 len)), .val (.int (own_v3 ps204 len))] [(.int (own_v3 ps204 len))])) _
                refine XS.iload X219.here hx rfl (hb hby at_261) rfl ?_
                exact k9)
            have b230 : (own_v3 ps204 len).toInt = (own_v3 ps204 len).toInt := by rfl
            have pre231 : ∀ t, Steps p.tables e below (T219.setTop (mkF m 271 #[.val (.int p1), .val (.int p2), .val (.int p3), .val (.int p4), .val (.long q5), .second, .val (.int len), .val (.int (0 : Int32)), .val (.ref b178), .val (.ref b191), .val (.int (own_v3 (0 : Int32) len)), .val (.int len), .val (.int k), .val (.int k), .val (.int (own_v3 ps204 len)), .val (.int (own_v3 ps204 len))] [(.int (1 : Int32))])) t → Steps p.tables e below (s₁.setTop (entryFrame m #[(.int p1), (.int p2), (.int p3), (.int p4), (.long q5)] maxLocals)) t := fun t9 k9 => pre229 t9 (by
                show Steps p.tables e below (T219.setTop (mkF m 263 #[.val (.int p1), .val (.int p2), .val (.int p3), .val (.int p4), .val (.long q5), .second, .val (.int len), .val (.int (0 : Int32)), .val (.ref b178), .val (.ref b191), .val (.int (own_v3 (0 : Int32) len)), .val (.int len), .val (.int k), .val (.int k), .val (.int (own_v3 ps204 len)), .val (.int (own_v3 ps204 len))] [(.int (own_v3 ps204 len)), (.int (own_v3 ps204 len))])) _
                refine XS.icmpNo X219.here hx rfl (hb hby at_263) rfl (own_ne_f (a := (own_v3 ps204 len).toInt) (b := (own_v3 ps204 len).toInt) rfl rfl b230) ?_
                show Steps p.tables e below (T219.setTop (mkF m 266 #[.val (.int p1), .val (.int p2), .val (.int p3), .val (.int p4), .val (.long q5), .second, .val (.int len), .val (.int (0 : Int32)), .val (.ref b178), .val (.ref b191), .val (.int (own_v3 (0 : Int32) len)), .val (.int len), .val (.int k), .val (.int k), .val (.int (own_v3 ps204 len)), .val (.int (own_v3 ps204 len))] [])) _
                refine XS.iconst X219.here hx rfl (hb hby at_266) ?_
                show Steps p.tables e below (T219.setTop (mkF m 267 #[.val (.int p1), .val (.int p2), .val (.int p3), .val (.int p4), .val (.long q5), .second, .val (.int len), .val (.int (0 : Int32)), .val (.ref b178), .val (.ref b191), .val (.int (own_v3 (0 : Int32) len)), .val (.int len), .val (.int k), .val (.int k), .val (.int (own_v3 ps204 len)), .val (.int (own_v3 ps204 len))] [(.int (1 : Int32))])) _
                refine XS.goto X219.here hx rfl (pc0 := 267) (pc' := 271) rfl (hb hby at_267) (by decide) (by decide) ?_
                exact k9)
            obtain ⟨fs, hr, hrun, hended, hW, hsame⟩ := X219.leave (v := some (.int (1 : Int32))) (fun h => by rw [Bd.returns] at h; cases h)
            refine ⟨_, _, pre231 _ ?_, hrun, hended, _, _, rfl, ?_, ⟨_, rfl⟩, hW, hsame.mono (by decide) (by decide)⟩
            · show Steps p.tables e below (T219.setTop (mkF m 271 #[.val (.int p1), .val (.int p2), .val (.int p3), .val (.int p4), .val (.long q5), .second, .val (.int len), .val (.int (0 : Int32)), .val (.ref b178), .val (.ref b191), .val (.int (own_v3 (0 : Int32) len)), .val (.int len), .val (.int k), .val (.int k), .val (.int (own_v3 ps204 len)), .val (.int (own_v3 ps204 len))] [(.int (1 : Int32))])) _
              exact retN X219 hx (t := .boolean) Bd.returns (by simp) (hb hby at_271) hr
            · show Q0 Z p1 p2 p3 p4 q5 h0 n0 _ T219.heap _
              rw [e219]
              exact ⟨rfl, N219⟩
      · have pre232 : ∀ t, Steps p.tables e below (T197.setTop (mkF m 160 #[.val (.int p1), .val (.int p2), .val (.int p3), .val (.int p4), .val (.long q5), .second, .val (.int len), .val (.int (0 : Int32)), .val (.ref b178), .val (.ref b191), .val (.int (own_v3 (0 : Int32) len)), .unset, .unset, .unset, .unset, .unset] [(.int (0 : Int32)), (.int (own_v3 (0 : Int32) len))])) t → Steps p.tables e below (s₁.setTop (entryFrame m #[(.int p1), (.int p2), (.int p3), (.int p4), (.long q5)] maxLocals)) t := fun t9 k9 => pre198 t9 (by
            show Steps p.tables e below (T197.setTop (mkF m 152 #[.val (.int p1), .val (.int p2), .val (.int p3), .val (.int p4), .val (.long q5), .second, .val (.int len), .val (.int (0 : Int32)), .val (.ref b178), .val (.ref b191), .val (.int (own_v3 (0 : Int32) len)), .unset, .unset, .unset, .unset, .unset] [(.int len), (.int (own_v3 (0 : Int32) len))])) _
            refine XS.ifYes X197.here hx rfl (pc0 := 152) (pc' := 159) rfl (hb hby at_152) rfl ((if0 _ _).trans (own_le_t (a := len.toInt) (b := (0 : Int)) rfl (by decide) b199)) (by decide) (by decide) ?_
            show Steps p.tables e below (T197.setTop (mkF m 159 #[.val (.int p1), .val (.int p2), .val (.int p3), .val (.int p4), .val (.long q5), .second, .val (.int len), .val (.int (0 : Int32)), .val (.ref b178), .val (.ref b191), .val (.int (own_v3 (0 : Int32) len)), .unset, .unset, .unset, .unset, .unset] [(.int (own_v3 (0 : Int32) len))])) _
            refine XS.iconst X197.here hx rfl (hb hby at_159) ?_
            exact k9)
        have b233 : (own_v3 (0 : Int32) len).toInt = (0 : Int) := by (have h01 := own_v3_01 (0 : Int32) len; have h00 : (0 : Int32).toInt = 0 := (by decide); omega)
        have pre234 : ∀ t, Steps p.tables e below (T197.setTop (mkF m 188 #[.val (.int p1), .val (.int p2), .val (.int p3), .val (.int p4), .val (.long q5), .second, .val (.int len), .val (.int (0 : Int32)), .val (.ref b178), .val (.ref b191), .val (.int (own_v3 (0 : Int32) len)), .val (.int len), .unset, .unset, .unset, .unset] [(.int ((p2 &&& (2147483647 : Int32)) % (7 : Int32)))])) t → Steps p.tables e below (s₁.setTop (entryFrame m #[(.int p1), (.int p2), (.int p3), (.int p4), (.long q5)] maxLocals)) t := fun t9 k9 => pre232 t9 (by
            show Steps p.tables e below (T197.setTop (mkF m 160 #[.val (.int p1), .val (.int p2), .val (.int p3), .val (.int p4), .val (.long q5), .second, .val (.int len), .val (.int (0 : Int32)), .val (.ref b178), .val (.ref b191), .val (.int (own_v3 (0 : Int32) len)), .unset, .unset, .unset, .unset, .unset] [(.int (0 : Int32)), (.int (own_v3 (0 : Int32) len))])) _
            refine XS.icmpYes X197.here hx rfl (pc0 := 160) (pc' := 165) rfl (hb hby at_160) rfl (own_eq_t (a := (own_v3 (0 : Int32) len).toInt) (b := (0 : Int)) rfl (by decide) b233) (by decide) (by decide) ?_
            show Steps p.tables e below (T197.setTop (mkF m 165 #[.val (.int p1), .val (.int p2), .val (.int p3), .val (.int p4), .val (.long q5), .second, .val (.int len), .val (.int (0 : Int32)), .val (.ref b178), .val (.ref b191), .val (.int (own_v3 (0 : Int32) len)), .unset, .unset, .unset, .unset, .unset] [])) _
            refine XS.iload X197.here hx rfl (hb hby at_165) rfl ?_
            show Steps p.tables e below (T197.setTop (mkF m 167 #[.val (.int p1), .val (.int p2), .val (.int p3), .val (.int p4), .val (.long q5), .second, .val (.int len), .val (.int (0 : Int32)), .val (.ref b178), .val (.ref b191), .val (.int (own_v3 (0 : Int32) len)), .unset, .unset, .unset, .unset, .unset] [(.int (0 : Int32))])) _
            refine XS.ifYes X197.here hx rfl (pc0 := 167) (pc' := 177) rfl (hb hby at_167) rfl ((if0 _ _).trans (own_eq_t (a := (0 : Int)) (b := (0 : Int)) (by decide) (by decide) (by decide))) (by decide) (by decide) ?_
            show Steps p.tables e below (T197.setTop (mkF m 177 #[.val (.int p1), .val (.int p2), .val (.int p3), .val (.int p4), .val (.long q5), .second, .val (.int len), .val (.int (0 : Int32)), .val (.ref b178), .val (.ref b191), .val (.int (own_v3 (0 : Int32) len)), .unset, .unset, .unset, .unset, .unset] [])) _
            refine XS.iload X197.here hx rfl (hb hby at_177) rfl ?_
            show Steps p.tables e below (T197.setTop (mkF m 179 #[.val (.int p1), .val (.int p2), .val (.int p3), .val (.int p4), .val (.long q5), .second, .val (.int len), .val (.int (0 : Int32)), .val (.ref b178), .val (.ref b191), .val (.int (own_v3 (0 : Int32) len)), .unset, .unset, .unset, .unset, .unset] [(.int len)])) _
            refine XS.istore X197.here hx rfl (hb hby at_179) rfl (l' := #[.val (.int p1), .val (.int p2), .val (.int p3), .val (.int p4), .val (.long q5), .second, .val (.int len), .val (.int (0 : Int32)), .val (.ref b178), .val (.ref b191), .val (.int (own_v3 (0 : Int32) len)), .val (.int len), .unset, .unset, .unset, .unset]) rfl ?_
            show Steps p.tables e below (T197.setTop (mkF m 181 #[.val (.int p1), .val (.int p2), .val (.int p3), .val (.int p4), .val (.long q5), .second, .val (.int len), .val (.int (0 : Int32)), .val (.ref b178), .val (.ref b191), .val (.int (own_v3 (0 : Int32) len)), .val (.int len), .unset, .unset, .unset, .unset] [])) _
            refine XS.iloadN X197.here hx rfl (hb hby at_181) rfl ?_
            show Steps p.tables e below (T197.setTop (mkF m 182 #[.val (.int p1), .val (.int p2), .val (.int p3), .val (.int p4), .val (.long q5), .second, .val (.int len), .val (.int (0 : Int32)), .val (.ref b178), .val (.ref b191), .val (.int (own_v3 (0 : Int32) len)), .val (.int len), .unset, .unset, .unset, .unset] [(.int p2)])) _
            refine X197.ldcInt hx hown (mvT hZ (hw _ (List.mem_of_getElem? (i := 0) rfl))) (g := (mkF m 182 #[.val (.int p1), .val (.int p2), .val (.int p3), .val (.int p4), .val (.long q5), .second, .val (.int len), .val (.int (0 : Int32)), .val (.ref b178), .val (.ref b191), .val (.int (own_v3 (0 : Int32) len)), .val (.int len), .unset, .unset, .unset, .unset] [(.int p2)])) rfl (hb hby at_182) _ ?_
            show Steps p.tables e below (T197.setTop (mkF m 184 #[.val (.int p1), .val (.int p2), .val (.int p3), .val (.int p4), .val (.long q5), .second, .val (.int len), .val (.int (0 : Int32)), .val (.ref b178), .val (.ref b191), .val (.int (own_v3 (0 : Int32) len)), .val (.int len), .unset, .unset, .unset, .unset] [(.int (2147483647 : Int32)), (.int p2)])) _
            refine XS.iand X197.here hx rfl (hb hby at_184) rfl ?_
            show Steps p.tables e below (T197.setTop (mkF m 185 #[.val (.int p1), .val (.int p2), .val (.int p3), .val (.int p4), .val (.long q5), .second, .val (.int len), .val (.int (0 : Int32)), .val (.ref b178), .val (.ref b191), .val (.int (own_v3 (0 : Int32) len)), .val (.int len), .unset, .unset, .unset, .unset] [(.int (p2 &&& (2147483647 : Int32)))])) _
            refine XS.bipush X197.here hx rfl (hb hby at_185) ?_
            show Steps p.tables e below (T197.setTop (mkF m 187 #[.val (.int p1), .val (.int p2), .val (.int p3), .val (.int p4), .val (.long q5), .second, .val (.int len), .val (.int (0 : Int32)), .val (.ref b178), .val (.ref b191), .val (.int (own_v3 (0 : Int32) len)), .val (.int len), .unset, .unset, .unset, .unset] [(.int (7 : Int32)), (.int (p2 &&& (2147483647 : Int32)))])) _
            refine iremM X197 hx rfl (hb hby at_187) rfl (by decide) ?_
            exact k9)
        obtain ⟨rd, h_rd⟩ : ∃ z, ((p2 &&& (2147483647 : Int32)) % (7 : Int32)) = z := ⟨_, rfl⟩
        rw [h_rd] at pre234 hr3
        clear hr2
        obtain ⟨_, _, ⟨T235, L235, k235, n235⟩, -, X235, ⟨Lc235, hQ235, l235, y235, z235⟩, st235⟩ := Jvm.LawKit.callS X197 hx (y := (⟨"java/lang/Math", "min", "(II)I"⟩ : MethodName)) hown (mvT hZ (hw _ (List.mem_of_getElem? (i := 23) rfl))) (mvT hZ (hw _ (List.mem_of_getElem? (i := 24) rfl))) (mvT hZ (hw _ (List.mem_of_getElem? (i := 25) rfl))) (mvT hZ (hw _ (List.mem_of_getElem? (i := 26) rfl))) (by decide) (backOf (W := 0) (rm4 l Z a0 hw [] rd len T194.heap n0 Z194 ) hZ (hw _ (List.mem_of_getElem? (i := 26) rfl)) (hw _ (List.mem_of_getElem? (i := 25) rfl)) (by decide) (by decide)) (g := (mkF m 190 #[.val (.int p1), .val (.int p2), .val (.int p3), .val (.int p4), .val (.long q5), .second, .val (.int len), .val (.int (0 : Int32)), .val (.ref b178), .val (.ref b191), .val (.int (own_v3 (0 : Int32) len)), .val (.int len), .unset, .unset, .unset, .unset] [(.int len), (.int rd)])) rfl (by rw [hml]; rfl) (argsL := [(.int rd), (.int len)]) (rest := []) (lenOf pd_0_2 rfl) rfl (by show 2 * 0 + _ ≤ _; exact Nat.le_of_eq rfl) (hb hby at_190) (fun _ _ => ⟨rfl, e197, (by decide : 2 + 0 ≤ _), (by decide : 9 + 0 ≤ _)⟩)
        dsimp only [Pt.U, Pt.locs, Pt.cells, Pt.slots] at X235 l235 y235 z235 st235 hQ235
        subst l235 y235 z235
        obtain ⟨hv235, N235q, e235⟩ := hQ235
        have hmin := own_v4_s rd len
        obtain ⟨k, h_k⟩ : ∃ z, (own_v4 rd len) = z := ⟨_, rfl⟩
        rw [h_k] at hmin hv235
        have hkl := c_i2l k
        have hk1 := own_add1 k (by omega)
        subst hv235
        have N235 := Fr.app N197 N235q
        obtain ⟨cq236, kq236, q236a, q236b, q236c⟩ := isOf hZ e235 E194x
        obtain ⟨_, _, ⟨T236, L236, k236, n236⟩, -, X236, ⟨Lc236, hQ236, l236, y236, z236⟩, st236⟩ := X235.virtualBack hx (y := (⟨"com/example/pesquisa/pesquisa/index/ByteSource", "skipNumbers", "(J)V"⟩ : MethodName)) (z := (⟨"com/example/pesquisa/pesquisa/index/ByteSource", "skipNumbers", "(J)V"⟩ : MethodName)) hown (mvT hZ (hw _ (List.mem_of_getElem? (i := 27) rfl))) (mvT hZ (hw _ (List.mem_of_getElem? (i := 28) rfl))) (notFace_of_selects (args := #[]) (mvT hZ (hw _ (List.mem_of_getElem? (i := 30) rfl)))) (mvT hZ (hw _ (List.mem_of_getElem? (i := 30) rfl))) (mvT hZ (hw _ (List.mem_of_getElem? (i := 29) rfl))) (by decide) (backOf (W := 0) (rm5 l Z a0 hw [] b191 (k.toInt64) b178 cl len 0 T194.heap n0 Z194 E194x F194_bytes F194_end F194_position g_b191 Ak195 ne192 hall hbits (Or.inl ⟨rfl, hbit0⟩) (by omega) (by omega) (by omega)) hZ (hw _ (List.mem_of_getElem? (i := 31) rfl)) (hw _ (List.mem_of_getElem? (i := 5) rfl)) (by decide) (by decide)) q236a q236c (g := (mkF m 200 #[.val (.int p1), .val (.int p2), .val (.int p3), .val (.int p4), .val (.long q5), .second, .val (.int len), .val (.int (0 : Int32)), .val (.ref b178), .val (.ref b191), .val (.int (own_v3 (0 : Int32) len)), .val (.int len), .val (.int k), .unset, .unset, .unset] [(.long (k.toInt64)), (.ref b191)])) rfl (by rw [hml]; rfl) (Steps.refl _) (argsL := [(.long (k.toInt64))]) (rest := []) (lenOf pd_0_3 rfl) rfl (by show 2 * 0 + _ ≤ _; exact Nat.le_of_eq rfl) (hb hby at_200) (fun _ _ => ⟨rfl, e235, (by decide : 2 + 0 ≤ _), (by decide : 9 + 0 ≤ _)⟩)
        dsimp only [Pt.U, Pt.locs, Pt.cells, Pt.slots] at X236 l236 y236 z236 st236 hQ236
        subst l236 y236 z236
        obtain ⟨ps236, hv236, N236q, K236, E236x, Fb236, Fe236, Fp236, hps236⟩ := hQ236
        subst hv236
        have N236 := Fr.app N235 N236q
        have Ak237 := own_arr_keep Ak195 K236 (ninS ne192 nin0)
        have Ek238 := E194x.keep K236
        have KK236 := KK194.trans K236 (allS (Or.inr sz_b191) all0)
        have Z236 : n0 ≤ T236.heap.size := Nat.le_trans Z194 K236.1
        rw [c_i2l] at hps236
        have pre239 : ∀ t, Steps p.tables e below (T236.setTop (mkF m 205 #[.val (.int p1), .val (.int p2), .val (.int p3), .val (.int p4), .val (.long q5), .second, .val (.int len), .val (.int (0 : Int32)), .val (.ref b178), .val (.ref b191), .val (.int (own_v3 (0 : Int32) len)), .val (.int len), .val (.int k), .unset, .unset, .unset] [(.int k)])) t → Steps p.tables e below (s₁.setTop (entryFrame m #[(.int p1), (.int p2), (.int p3), (.int p4), (.long q5)] maxLocals)) t := fun t9 k9 => pre234 t9 (by
            show Steps p.tables e below (T197.setTop (mkF m 188 #[.val (.int p1), .val (.int p2), .val (.int p3), .val (.int p4), .val (.long q5), .second, .val (.int len), .val (.int (0 : Int32)), .val (.ref b178), .val (.ref b191), .val (.int (own_v3 (0 : Int32) len)), .val (.int len), .unset, .unset, .unset, .unset] [(.int rd)])) _
            refine XS.iload X197.here hx rfl (hb hby at_188) rfl ?_
            show Steps p.tables e below (T197.setTop (mkF m 190 #[.val (.int p1), .val (.int p2), .val (.int p3), .val (.int p4), .val (.long q5), .second, .val (.int len), .val (.int (0 : Int32)), .val (.ref b178), .val (.ref b191), .val (.int (own_v3 (0 : Int32) len)), .val (.int len), .unset, .unset, .unset, .unset] [(.int len), (.int rd)])) _
            refine st235 _ ?_
            show Steps p.tables e below (T235.setTop (mkF m 193 #[.val (.int p1), .val (.int p2), .val (.int p3), .val (.int p4), .val (.long q5), .second, .val (.int len), .val (.int (0 : Int32)), .val (.ref b178), .val (.ref b191), .val (.int (own_v3 (0 : Int32) len)), .val (.int len), .unset, .unset, .unset, .unset] [(.int k)])) _
            refine XS.istore X235.here hx rfl (hb hby at_193) rfl (l' := #[.val (.int p1), .val (.int p2), .val (.int p3), .val (.int p4), .val (.long q5), .second, .val (.int len), .val (.int (0 : Int32)), .val (.ref b178), .val (.ref b191), .val (.int (own_v3 (0 : Int32) len)), .val (.int len), .val (.int k), .unset, .unset, .unset]) rfl ?_
            show Steps p.tables e below (T235.setTop (mkF m 195 #[.val (.int p1), .val (.int p2), .val (.int p3), .val (.int p4), .val (.long q5), .second, .val (.int len), .val (.int (0 : Int32)), .val (.ref b178), .val (.ref b191), .val (.int (own_v3 (0 : Int32) len)), .val (.int len), .val (.int k), .unset, .unset, .unset] [])) _
            refine XS.aload X235.here hx rfl (hb hby at_195) rfl rfl ?_
            show Steps p.tables e below (T235.setTop (mkF m 197 #[.val (.int p1), .val (.int p2), .val (.int p3), .val (.int p4), .val (.long q5), .second, .val (.int len), .val (.int (0 : Int32)), .val (.ref b178), .val (.ref b191), .val (.int (own_v3 (0 : Int32) len)), .val (.int len), .val (.int k), .unset, .unset, .unset] [(.ref b191)])) _
            refine XS.iload X235.here hx rfl (hb hby at_197) rfl ?_
            show Steps p.tables e below (T235.setTop (mkF m 199 #[.val (.int p1), .val (.int p2), .val (.int p3), .val (.int p4), .val (.long q5), .second, .val (.int len), .val (.int (0 : Int32)), .val (.ref b178), .val (.ref b191), .val (.int (own_v3 (0 : Int32) len)), .val (.int len), .val (.int k), .unset, .unset, .unset] [(.int k), (.ref b191)])) _
            refine XS.i2l X235.here hx rfl (hb hby at_199) rfl ?_
            show Steps p.tables e below (T235.setTop (mkF m 200 #[.val (.int p1), .val (.int p2), .val (.int p3), .val (.int p4), .val (.long q5), .second, .val (.int len), .val (.int (0 : Int32)), .val (.ref b178), .val (.ref b191), .val (.int (own_v3 (0 : Int32) len)), .val (.int len), .val (.int k), .unset, .unset, .unset] [(.long (k.toInt64)), (.ref b191)])) _
            refine st236.trans ?_
            show Steps p.tables e below (T236.setTop (mkF m 203 #[.val (.int p1), .val (.int p2), .val (.int p3), .val (.int p4), .val (.long q5), .second, .val (.int len), .val (.int (0 : Int32)), .val (.ref b178), .val (.ref b191), .val (.int (own_v3 (0 : Int32) len)), .val (.int len), .val (.int k), .unset, .unset, .unset] [])) _
            refine XS.iload X236.here hx rfl (hb hby at_203) rfl ?_
            exact k9)
        have b240 : k.toInt = (0 : Int) := by omega
        have hpk : ps236.toInt = 0 := by rw [hps236, (by assumption : k.toInt = (0 : Int))]; exact own_at_0 _
        obtain ⟨cq241, kq241, q241a, q241b, q241c⟩ := isOf hZ rfl E236x
        obtain ⟨_, _, ⟨T241, L241, k241, n241⟩, -, X241, ⟨Lc241, hQ241, l241, y241, z241⟩, st241⟩ := X236.virtualBack hx (y := (⟨"com/example/pesquisa/pesquisa/index/ByteSource", "hasMore", "()Z"⟩ : MethodName)) (z := (⟨"com/example/pesquisa/pesquisa/index/ByteSource", "hasMore", "()Z"⟩ : MethodName)) hown (mvT hZ (hw _ (List.mem_of_getElem? (i := 16) rfl))) (mvT hZ (hw _ (List.mem_of_getElem? (i := 17) rfl))) (notFace_of_selects (args := #[]) (mvT hZ (hw _ (List.mem_of_getElem? (i := 19) rfl)))) (mvT hZ (hw _ (List.mem_of_getElem? (i := 19) rfl))) (mvT hZ (hw _ (List.mem_of_getElem? (i := 18) rfl))) (by decide) (backOf (W := 0) (rm3 l Z a0 hw [] b191 len ps236 T236.heap n0 Z236 Fe236 Fp236) hZ (hw _ (List.mem_of_getElem? (i := 20) rfl)) (hw _ (List.mem_of_getElem? (i := 5) rfl)) (by decide) (by decide)) q241a q241c (g := (mkF m 230 #[.val (.int p1), .val (.int p2), .val (.int p3), .val (.int p4), .val (.long q5), .second, .val (.int len), .val (.int (0 : Int32)), .val (.ref b178), .val (.ref b191), .val (.int (own_v3 (0 : Int32) len)), .val (.int len), .val (.int k), .val (.int (0 : Int32)), .unset, .unset] [(.ref b191)])) rfl (by rw [hml]; rfl) (Steps.refl _) (argsL := []) (rest := []) (lenOf pd_0_1 rfl) rfl (by show 2 * 0 + _ ≤ _; exact Nat.le_of_eq rfl) (hb hby at_230) (fun _ _ => ⟨rfl, rfl, (by decide : 2 + 0 ≤ _), (by decide : 9 + 0 ≤ _)⟩)
        dsimp only [Pt.U, Pt.locs, Pt.cells, Pt.slots] at X241 l241 y241 z241 st241 hQ241
        subst l241 y241 z241
        obtain ⟨hv241, N241q, e241⟩ := hQ241
        subst hv241
        have N241 := Fr.app N236 N241q
        obtain ⟨cq242, kq242, q242a, q242b, q242c⟩ := isOf hZ e241 E236x
        obtain ⟨_, _, ⟨T242, L242, k242, n242⟩, -, X242, ⟨Lc242, hQ242, l242, y242, z242⟩, st242⟩ := X241.virtualBack hx (y := (⟨"com/example/pesquisa/pesquisa/index/ByteSource", "hasMore", "()Z"⟩ : MethodName)) (z := (⟨"com/example/pesquisa/pesquisa/index/ByteSource", "hasMore", "()Z"⟩ : MethodName)) hown (mvT hZ (hw _ (List.mem_of_getElem? (i := 16) rfl))) (mvT hZ (hw _ (List.mem_of_getElem? (i := 17) rfl))) (notFace_of_selects (args := #[]) (mvT hZ (hw _ (List.mem_of_getElem? (i := 19) rfl)))) (mvT hZ (hw _ (List.mem_of_getElem? (i := 19) rfl))) (mvT hZ (hw _ (List.mem_of_getElem? (i := 18) rfl))) (by decide) (backOf (W := 0) (rm3 l Z a0 hw [] b191 len ps236 T236.heap n0 Z236 Fe236 Fp236) hZ (hw _ (List.mem_of_getElem? (i := 20) rfl)) (hw _ (List.mem_of_getElem? (i := 5) rfl)) (by decide) (by decide)) q242a q242c (g := (mkF m 237 #[.val (.int p1), .val (.int p2), .val (.int p3), .val (.int p4), .val (.long q5), .second, .val (.int len), .val (.int (0 : Int32)), .val (.ref b178), .val (.ref b191), .val (.int (own_v3 (0 : Int32) len)), .val (.int len), .val (.int k), .val (.int (0 : Int32)), .val (.int (own_v3 ps236 len)), .unset] [(.ref b191)])) rfl (by rw [hml]; rfl) (Steps.refl _) (argsL := []) (rest := []) (lenOf pd_0_1 rfl) rfl (by show 2 * 0 + _ ≤ _; exact Nat.le_of_eq rfl) (hb hby at_237) (fun _ _ => ⟨rfl, e241, (by decide : 2 + 0 ≤ _), (by decide : 9 + 0 ≤ _)⟩)
        dsimp only [Pt.U, Pt.locs, Pt.cells, Pt.slots] at X242 l242 y242 z242 st242 hQ242
        subst l242 y242 z242
        obtain ⟨hv242, N242q, e242⟩ := hQ242
        subst hv242
        have N242 := Fr.app N241 N242q
        have pre243 : ∀ t, Steps p.tables e below (T242.setTop (mkF m 248 #[.val (.int p1), .val (.int p2), .val (.int p3), .val (.int p4), .val (.long q5), .second, .val (.int len), .val (.int (0 : Int32)), .val (.ref b178), .val (.ref b191), .val (.int (own_v3 (0 : Int32) len)), .val (.int len), .val (.int k), .val (.int (0 : Int32)), .val (.int (own_v3 ps236 len)), .val (.int (own_v3 ps236 len))] [(.int len), (.int (0 : Int32)), (.int (own_v3 ps236 len))])) t → Steps p.tables e below (s₁.setTop (entryFrame m #[(.int p1), (.int p2), (.int p3), (.int p4), (.long q5)] maxLocals)) t := fun t9 k9 => pre239 t9 (by
            show Steps p.tables e below (T236.setTop (mkF m 205 #[.val (.int p1), .val (.int p2), .val (.int p3), .val (.int p4), .val (.long q5), .second, .val (.int len), .val (.int (0 : Int32)), .val (.ref b178), .val (.ref b191), .val (.int (own_v3 (0 : Int32) len)), .val (.int len), .val (.int k), .unset, .unset, .unset] [(.int k)])) _
            refine XS.ifNo X236.here hx rfl (hb hby at_205) rfl ((if0 _ _).trans (own_ne_f (a := k.toInt) (b := (0 : Int)) rfl (by decide) b240)) ?_
            show Steps p.tables e below (T236.setTop (mkF m 208 #[.val (.int p1), .val (.int p2), .val (.int p3), .val (.int p4), .val (.long q5), .second, .val (.int len), .val (.int (0 : Int32)), .val (.ref b178), .val (.ref b191), .val (.int (own_v3 (0 : Int32) len)), .val (.int len), .val (.int k), .unset, .unset, .unset] [])) _
            refine XS.iconst X236.here hx rfl (hb hby at_208) ?_
            show Steps p.tables e below (T236.setTop (mkF m 209 #[.val (.int p1), .val (.int p2), .val (.int p3), .val (.int p4), .val (.long q5), .second, .val (.int len), .val (.int (0 : Int32)), .val (.ref b178), .val (.ref b191), .val (.int (own_v3 (0 : Int32) len)), .val (.int len), .val (.int k), .unset, .unset, .unset] [(.int (0 : Int32))])) _
            refine XS.goto X236.here hx rfl (pc0 := 209) (pc' := 226) rfl (hb hby at_209) (by decide) (by decide) ?_
            show Steps p.tables e below (T236.setTop (mkF m 226 #[.val (.int p1), .val (.int p2), .val (.int p3), .val (.int p4), .val (.long q5), .second, .val (.int len), .val (.int (0 : Int32)), .val (.ref b178), .val (.ref b191), .val (.int (own_v3 (0 : Int32) len)), .val (.int len), .val (.int k), .unset, .unset, .unset] [(.int (0 : Int32))])) _
            refine XS.istore X236.here hx rfl (hb hby at_226) rfl (l' := #[.val (.int p1), .val (.int p2), .val (.int p3), .val (.int p4), .val (.long q5), .second, .val (.int len), .val (.int (0 : Int32)), .val (.ref b178), .val (.ref b191), .val (.int (own_v3 (0 : Int32) len)), .val (.int len), .val (.int k), .val (.int (0 : Int32)), .unset, .unset]) rfl ?_
            show Steps p.tables e below (T236.setTop (mkF m 228 #[.val (.int p1), .val (.int p2), .val (.int p3), .val (.int p4), .val (.long q5), .second, .val (.int len), .val (.int (0 : Int32)), .val (.ref b178), .val (.ref b191), .val (.int (own_v3 (0 : Int32) len)), .val (.int len), .val (.int k), .val (.int (0 : Int32)), .unset, .unset] [])) _
            refine XS.aload X236.here hx rfl (hb hby at_228) rfl rfl ?_
            show Steps p.tables e below (T236.setTop (mkF m 230 #[.val (.int p1), .val (.int p2), .val (.int p3), .val (.int p4), .val (.long q5), .second, .val (.int len), .val (.int (0 : Int32)), .val (.ref b178), .val (.ref b191), .val (.int (own_v3 (0 : Int32) len)), .val (.int len), .val (.int k), .val (.int (0 : Int32)), .unset, .unset] [(.ref b191)])) _
            refine st241.trans ?_
            show Steps p.tables e below (T241.setTop (mkF m 233 #[.val (.int p1), .val (.int p2), .val (.int p3), .val (.int p4), .val (.long q5), .second, .val (.int len), .val (.int (0 : Int32)), .val (.ref b178), .val (.ref b191), .val (.int (own_v3 (0 : Int32) len)), .val (.int len), .val (.int k), .val (.int (0 : Int32)), .unset, .unset] [(.int (own_v3 ps236 len))])) _
            refine XS.istore X241.here hx rfl (hb hby at_233) rfl (l' := #[.val (.int p1), .val (.int p2), .val (.int p3), .val (.int p4), .val (.long q5), .second, .val (.int len), .val (.int (0 : Int32)), .val (.ref b178), .val (.ref b191), .val (.int (own_v3 (0 : Int32) len)), .val (.int len), .val (.int k), .val (.int (0 : Int32)), .val (.int (own_v3 ps236 len)), .unset]) rfl ?_
            show Steps p.tables e below (T241.setTop (mkF m 235 #[.val (.int p1), .val (.int p2), .val (.int p3), .val (.int p4), .val (.long q5), .second, .val (.int len), .val (.int (0 : Int32)), .val (.ref b178), .val (.ref b191), .val (.int (own_v3 (0 : Int32) len)), .val (.int len), .val (.int k), .val (.int (0 : Int32)), .val (.int (own_v3 ps236 len)), .unset] [])) _
            refine XS.aload X241.here hx rfl (hb hby at_235) rfl rfl ?_
            show Steps p.tables e below (T241.setTop (mkF m 237 #[.val (.int p1), .val (.int p2), .val (.int p3), .val (.int p4), .val (.long q5), .second, .val (.int len), .val (.int (0 : Int32)), .val (.ref b178), .val (.ref b191), .val (.int (own_v3 (0 : Int32) len)), .val (.int len), .val (.int k), .val (.int (0 : Int32)), .val (.int (own_v3 ps236 len)), .unset] [(.ref b191)])) _
            refine st242.trans ?_
            show Steps p.tables e below (T242.setTop (mkF m 240 #[.val (.int p1), .val (.int p2), .val (.int p3), .val (.int p4), .val (.long q5), .second, .val (.int len), .val (.int (0 : Int32)), .val (.ref b178), .val (.ref b191), .val (.int (own_v3 (0 : Int32) len)), .val (.int len), .val (.int k), .val (.int (0 : Int32)), .val (.int (own_v3 ps236 len)), .unset] [(.int (own_v3 ps236 len))])) _
            refine XS.istore X242.here hx rfl (hb hby at_240) rfl (l' := #[.val (.int p1), .val (.int p2), .val (.int p3), .val (.int p4), .val (.long q5), .second, .val (.int len), .val (.int (0 : Int32)), .val (.ref b178), .val (.ref b191), .val (.int (own_v3 (0 : Int32) len)), .val (.int len), .val (.int k), .val (.int (0 : Int32)), .val (.int (own_v3 ps236 len)), .val (.int (own_v3 ps236 len))]) rfl ?_
            show Steps p.tables e below (T242.setTop (mkF m 242 #[.val (.int p1), .val (.int p2), .val (.int p3), .val (.int p4), .val (.long q5), .second, .val (.int len), .val (.int (0 : Int32)), .val (.ref b178), .val (.ref b191), .val (.int (own_v3 (0 : Int32) len)), .val (.int len), .val (.int k), .val (.int (0 : Int32)), .val (.int (own_v3 ps236 len)), .val (.int (own_v3 ps236 len))] [])) _
            refine XS.iload X242.here hx rfl (hb hby at_242) rfl ?_
            show Steps p.tables e below (T242.setTop (mkF m 244 #[.val (.int p1), .val (.int p2), .val (.int p3), .val (.int p4), .val (.long q5), .second, .val (.int len), .val (.int (0 : Int32)), .val (.ref b178), .val (.ref b191), .val (.int (own_v3 (0 : Int32) len)), .val (.int len), .val (.int k), .val (.int (0 : Int32)), .val (.int (own_v3 ps236 len)), .val (.int (own_v3 ps236 len))] [(.int (own_v3 ps236 len))])) _
            refine XS.iload X242.here hx rfl (hb hby at_244) rfl ?_
            show Steps p.tables e below (T242.setTop (mkF m 246 #[.val (.int p1), .val (.int p2), .val (.int p3), .val (.int p4), .val (.long q5), .second, .val (.int len), .val (.int (0 : Int32)), .val (.ref b178), .val (.ref b191), .val (.int (own_v3 (0 : Int32) len)), .val (.int len), .val (.int k), .val (.int (0 : Int32)), .val (.int (own_v3 ps236 len)), .val (.int (own_v3 ps236 len))] [(.int (0 : Int32)), (.int (own_v3 ps236 len))])) _
            refine XS.iload X242.here hx rfl (hb hby at_246) rfl ?_
            exact k9)
        have b244 : ¬ ((0 : Int) < len.toInt) := by omega
        have pre245 : ∀ t, Steps p.tables e below (T242.setTop (mkF m 256 #[.val (.int p1), .val (.int p2), .val (.int p3), .val (.int p4), .val (.long q5), .second, .val (.int len), .val (.int (0 : Int32)), .val (.ref b178), .val (.ref b191), .val (.int (own_v3 (0 : Int32) len)), .val (.int len), .val (.int k), .val (.int (0 : Int32)), .val (.int (own_v3 ps236 len)), .val (.int (own_v3 ps236 len))] [(.int (0 : Int32)), (.int (own_v3 ps236 len))])) t → Steps p.tables e below (s₁.setTop (entryFrame m #[(.int p1), (.int p2), (.int p3), (.int p4), (.long q5)] maxLocals)) t := fun t9 k9 => pre243 t9 (by
            show Steps p.tables e below (T242.setTop (mkF m 248 #[.val (.int p1), .val (.int p2), .val (.int p3), .val (.int p4), .val (.long q5), .second, .val (.int len), .val (.int (0 : Int32)), .val (.ref b178), .val (.ref b191), .val (.int (own_v3 (0 : Int32) len)), .val (.int len), .val (.int k), .val (.int (0 : Int32)), .val (.int (own_v3 ps236 len)), .val (.int (own_v3 ps236 len))] [(.int len), (.int (0 : Int32)), (.int (own_v3 ps236 len))])) _
            refine XS.icmpYes X242.here hx rfl (pc0 := 248) (pc' := 255) rfl (hb hby at_248) rfl (own_ge_t (a := (0 : Int)) (b := len.toInt) (by decide) rfl b244) (by decide) (by decide) ?_
            show Steps p.tables e below (T242.setTop (mkF m 255 #[.val (.int p1), .val (.int p2), .val (.int p3), .val (.int p4), .val (.long q5), .second, .val (.int len), .val (.int (0 : Int32)), .val (.ref b178), .val (.ref b191), .val (.int (own_v3 (0 : Int32) len)), .val (.int len), .val (.int k), .val (.int (0 : Int32)), .val (.int (own_v3 ps236 len)), .val (.int (own_v3 ps236 len))] [(.int (own_v3 ps236 len))])) _
            refine XS.iconst X242.here hx rfl (hb hby at_255) ?_
            exact k9)
        have b246 : (own_v3 ps236 len).toInt = (0 : Int) := by (have h01 := own_v3_01 ps236 len; omega)
        have pre247 : ∀ t, Steps p.tables e below (T242.setTop (mkF m 263 #[.val (.int p1), .val (.int p2), .val (.int p3), .val (.int p4), .val (.long q5), .second, .val (.int len), .val (.int (0 : Int32)), .val (.ref b178), .val (.ref b191), .val (.int (own_v3 (0 : Int32) len)), .val (.int len), .val (.int k), .val (.int (0 : Int32)), .val (.int (own_v3 ps236 len)), .val (.int (own_v3 ps236 len))] [(.int (own_v3 ps236 len)), (.int (own_v3 ps236 len))])) t → Steps p.tables e below (s₁.setTop (entryFrame m #[(.int p1), (.int p2), (.int p3), (.int p4), (.long q5)] maxLocals)) t := fun t9 k9 => pre245 t9 (by
            show Steps p.tables e below (T242.setTop (mkF m 256 #[.val (.int p1), .val (.int p2), .val (.int p3), .val (.int p4), .val (.long q5), .second, .val (.int len), .val (.int (0 : Int32)), .val (.ref b178), .val (.ref b191), .val (.int (own_v3 (0 : Int32) len)), .val (.int len), .val (.int k), .val (.int (0 : Int32)), .val (.int (own_v3 ps236 len)), .val (.int (own_v3 ps236 len))] [(.int (0 : Int32)), (.int (own_v3 ps236 len))])) _
            refine XS.icmpNo X242.here hx rfl (hb hby at_256) rfl (own_ne_f (a := (own_v3 ps236 len).toInt) (b := (0 : Int)) rfl (by decide) b246) ?_
            show Steps p.tables e below (T242.setTop (mkF m 259 #[.val (.int p1), .val (.int p2), .val (.int p3), .val (.int p4), .val (.long q5), .second, .val (.int len), .val (.int (0 : Int32)), .val (.ref b178), .val (.ref b191), .val (.int (own_v3 (0 : Int32) len)), .val (.int len), .val (.int k), .val (.int (0 : Int32)), .val (.int (own_v3 ps236 len)), .val (.int (own_v3 ps236 len))] [])) _
            refine XS.iload X242.here hx rfl (hb hby at_259) rfl ?_
            show Steps p.tables e below (T242.setTop (mkF m 261 #[.val (.int p1), .val (.int p2), .val (.int p3), .val (.int p4), .val (.long q5), .second, .val (.int len), .val (.int (0 : Int32)), .val (.ref b178), .val (.ref b191), .val (.int (own_v3 (0 : Int32) len)), .val (.int len), .val (.int k), .val (.int (0 : Int32)), .val (.int (own_v3 ps236 len)), .val (.int (own_v3 ps236 len))] [(.int (own_v3 ps236 len))])) _
            refine XS.iload X242.here hx rfl (hb hby at_261) rfl ?_
            exact k9)
        have b248 : (own_v3 ps236 len).toInt = (own_v3 ps236 len).toInt := by rfl
        have pre249 : ∀ t, Steps p.tables e below (T242.setTop (mkF m 271 #[.val (.int p1), .val (.int p2), .val (.int p3), .val (.int p4), .val (.long q5), .second, .val (.int len), .val (.int (0 : Int32)), .val (.ref b178), .val (.ref b191), .val (.int (own_v3 (0 : Int32) len)), .val (.int len), .val (.int k), .val (.int (0 : Int32)), .val (.int (own_v3 ps236 len)), .val (.int (own_v3 ps236 len))] [(.int (1 : Int32))])) t → Steps p.tables e below (s₁.setTop (entryFrame m #[(.int p1), (.int p2), (.int p3), (.int p4), (.long q5)] maxLocals)) t := fun t9 k9 => pre247 t9 (by
            show Steps p.tables e below (T242.setTop (mkF m 263 #[.val (.int p1), .val (.int p2), .val (.int p3), .val (.int p4), .val (.long q5), .second, .val (.int len), .val (.int (0 : Int32)), .val (.ref b178), .val (.ref b191), .val (.int (own_v3 (0 : Int32) len)), .val (.int len), .val (.int k), .val (.int (0 : Int32)), .val (.int (own_v3 ps236 len)), .val (.int (own_v3 ps236 len))] [(.int (own_v3 ps236 len)), (.int (own_v3 ps236 len))])) _
            refine XS.icmpNo X242.here hx rfl (hb hby at_263) rfl (own_ne_f (a := (own_v3 ps236 len).toInt) (b := (own_v3 ps236 len).toInt) rfl rfl b248) ?_
            show Steps p.tables e below (T242.setTop (mkF m 266 #[.val (.int p1), .val (.int p2), .val (.int p3), .val (.int p4), .val (.long q5), .second, .val (.int len), .val (.int (0 : Int32)), .val (.ref b178), .val (.ref b191), .val (.int (own_v3 (0 : Int32) len)), .val (.int len), .val (.int k), .val (.int (0 : Int32)), .val (.int (own_v3 ps236 len)), .val (.int (own_v3 ps236 len))] [])) _
            refine XS.iconst X242.here hx rfl (hb hby at_266) ?_
            show Steps p.tables e below (T242.setTop (mkF m 267 #[.val (.int p1), .val (.int p2), .val (.int p3), .val (.int p4), .val (.long q5), .second, .val (.int len), .val (.int (0 : Int32)), .val (.ref b178), .val (.ref b191), .val (.int (own_v3 (0 : Int32) len)), .val (.int len), .val (.int k), .val (.int (0 : Int32)), .val (.int (own_v3 ps236 len)), .val (.int (own_v3 ps236 len))] [(.int (1 : Int32))])) _
            refine XS.goto X242.here hx rfl (pc0 := 267) (pc' := 271) rfl (hb hby at_267) (by decide) (by decide) ?_
            exact k9)
        obtain ⟨fs, hr, hrun, hended, hW, hsame⟩ := X242.leave (v := some (.int (1 : Int32))) (fun h => by rw [Bd.returns] at h; cases h)
        refine ⟨_, _, pre249 _ ?_, hrun, hended, _, _, rfl, ?_, ⟨_, rfl⟩, hW, hsame.mono (by decide) (by decide)⟩
        · show Steps p.tables e below (T242.setTop (mkF m 271 #[.val (.int p1), .val (.int p2), .val (.int p3), .val (.int p4), .val (.long q5), .second, .val (.int len), .val (.int (0 : Int32)), .val (.ref b178), .val (.ref b191), .val (.int (own_v3 (0 : Int32) len)), .val (.int len), .val (.int k), .val (.int (0 : Int32)), .val (.int (own_v3 ps236 len)), .val (.int (own_v3 ps236 len))] [(.int (1 : Int32))])) _
          exact retN X242 hx (t := .boolean) Bd.returns (by simp) (hb hby at_271) hr
        · show Q0 Z p1 p2 p3 p4 q5 h0 n0 _ T242.heap _
          rw [e242]
          exact ⟨rfl, N242⟩
    · obtain ⟨T250, h250, k250, X250, e250, E250, A250, st250⟩ := newP X0 hx hZ (hw _ (List.mem_of_getElem? (i := 1) rfl)) e0 (g := (mkF m 30 #[.val (.int p1), .val (.int p2), .val (.int p3), .val (.int p4), .val (.long q5), .second, .val (.int len), .val (.int (1 : Int32)), .unset, .unset, .unset, .unset, .unset, .unset, .unset, .unset] [(.int (6 : Int32))])) rfl (hb hby at_30) rfl (by decide) (cap := 6) (by decide) (by decide) (by decide) (by decide)
      obtain ⟨b250, g250⟩ : ∃ z, z = h0.size := ⟨_, rfl⟩
      rw [← g250] at A250 st250
      have g_b250 : n0 ≤ b250 := Nat.le_trans Z0 (Nat.le_of_eq g250.symm)
      have sz_b250 : h0.size ≤ b250 := Nat.le_trans (Keep.refl h0 []).1 (Nat.le_of_eq g250.symm)
      have V250 : Arv Z h250 b250 k250 .byte (6 : Int32) [(.int (0 : Int32)), (.int (0 : Int32)), (.int (0 : Int32)), (.int (0 : Int32)), (.int (0 : Int32)), (.int (0 : Int32))] (.int (0 : Int32)) := (Arv.new A250 (by decide)).pad (pad_rep [] (.int (0 : Int32)) 6)
      have K250 := (Keep.refl h0 []).ext E250
      have Z250 : n0 ≤ h250.size := Nat.le_trans Z0 E250.1
      obtain ⟨cl251, Ar251, q251, S251, M251, H251, G251⟩ := V250
      have hin251 : ¬ ((0 : Int32) < 0 ∨ cl251.slots.size ≤ ((0 : Int32)).toNatClampNeg) := inb_of S251 ⟨by decide, by decide⟩
      obtain ⟨T252, h252, X252, e252, W252, st252⟩ := stB X250 hx hZ e250 Ar251 (j := (0 : Int32)) hin251 (g := (mkF m 55 #[.val (.int p1), .val (.int p2), .val (.int p3), .val (.int p4), .val (.long q5), .second, .val (.int len), .val (.int (1 : Int32)), .val (.ref b250), .unset, .unset, .unset, .unset, .unset, .unset, .unset] [(.int (((p4 &&& (127 : Int32)) ||| (128 : Int32)).toInt8.toInt32)), (.int (0 : Int32)), (.ref b250)])) rfl rfl (hb hby at_55)
      have V252 : Arv Z h252 b250 k250 .byte (6 : Int32) [(.int (nar .byte (((p4 &&& (127 : Int32)) ||| (128 : Int32)).toInt8.toInt32))), (.int (0 : Int32)), (.int (0 : Int32)), (.int (0 : Int32)), (.int (0 : Int32)), (.int (0 : Int32))] (.int (0 : Int32)) := Arv.set Ar251 q251 S251 M251 H251 G251 (fits_nar_byte _) W252 0 rfl (Nat.le_of_ble_eq_true rfl)
      have N252 := Fr.snoc X252 N0 g_b250
      have K252 := K250.wr W252 (Or.inr sz_b250)
      have Z252 : n0 ≤ h252.size := (Nat.le_trans Z250 (Keep.of_wr W252).1)
      obtain ⟨cl253, Ar253, q253, S253, M253, H253, G253⟩ := V252
      have hin253 : ¬ ((1 : Int32) < 0 ∨ cl253.slots.size ≤ ((1 : Int32)).toNatClampNeg) := inb_of S253 ⟨by decide, by decide⟩
      obtain ⟨T254, h254, X254, e254, W254, st254⟩ := stB X252 hx hZ e252 Ar253 (j := (1 : Int32)) hin253 (g := (mkF m 67 #[.val (.int p1), .val (.int p2), .val (.int p3), .val (.int p4), .val (.long q5), .second, .val (.int len), .val (.int (1 : Int32)), .val (.ref b250), .unset, .unset, .unset, .unset, .unset, .unset, .unset] [(.int (((q5 &&& (127 : Int64)).toInt32).toInt8.toInt32)), (.int (1 : Int32)), (.ref b250)])) rfl rfl (hb hby at_67)
      have V254 : Arv Z h254 b250 k250 .byte (6 : Int32) [(.int (nar .byte (((p4 &&& (127 : Int32)) ||| (128 : Int32)).toInt8.toInt32))), (.int (nar .byte (((q5 &&& (127 : Int64)).toInt32).toInt8.toInt32))), (.int (0 : Int32)), (.int (0 : Int32)), (.int (0 : Int32)), (.int (0 : Int32))] (.int (0 : Int32)) := Arv.set Ar253 q253 S253 M253 H253 G253 (fits_nar_byte _) W254 1 rfl (Nat.le_of_ble_eq_true rfl)
      have N254 := Fr.snoc X254 N252 g_b250
      have K254 := K252.wr W254 (Or.inr sz_b250)
      have Z254 : n0 ≤ h254.size := (Nat.le_trans Z252 (Keep.of_wr W254).1)
      obtain ⟨cl255, Ar255, q255, S255, M255, H255, G255⟩ := V254
      have hin255 : ¬ ((2 : Int32) < 0 ∨ cl255.slots.size ≤ ((2 : Int32)).toNatClampNeg) := inb_of S255 ⟨by decide, by decide⟩
      obtain ⟨T256, h256, X256, e256, W256, st256⟩ := stB X254 hx hZ e254 Ar255 (j := (2 : Int32)) hin255 (g := (mkF m 82 #[.val (.int p1), .val (.int p2), .val (.int p3), .val (.int p4), .val (.long q5), .second, .val (.int len), .val (.int (1 : Int32)), .val (.ref b250), .unset, .unset, .unset, .unset, .unset, .unset, .unset] [(.int (((((q5.toUInt64 >>> ((8 : Int32) &&& 0x3f).toInt64.toUInt64).toInt64) &&& (127 : Int64)).toInt32).toInt8.toInt32)), (.int (2 : Int32)), (.ref b250)])) rfl rfl (hb hby at_82)
      have V256 : Arv Z h256 b250 k250 .byte (6 : Int32) [(.int (nar .byte (((p4 &&& (127 : Int32)) ||| (128 : Int32)).toInt8.toInt32))), (.int (nar .byte (((q5 &&& (127 : Int64)).toInt32).toInt8.toInt32))), (.int (nar .byte (((((q5.toUInt64 >>> ((8 : Int32) &&& 0x3f).toInt64.toUInt64).toInt64) &&& (127 : Int64)).toInt32).toInt8.toInt32))), (.int (0 : Int32)), (.int (0 : Int32)), (.int (0 : Int32))] (.int (0 : Int32)) := Arv.set Ar255 q255 S255 M255 H255 G255 (fits_nar_byte _) W256 2 rfl (Nat.le_of_ble_eq_true rfl)
      have N256 := Fr.snoc X256 N254 g_b250
      have K256 := K254.wr W256 (Or.inr sz_b250)
      have Z256 : n0 ≤ h256.size := (Nat.le_trans Z254 (Keep.of_wr W256).1)
      obtain ⟨cl257, Ar257, q257, S257, M257, H257, G257⟩ := V256
      have hin257 : ¬ ((3 : Int32) < 0 ∨ cl257.slots.size ≤ ((3 : Int32)).toNatClampNeg) := inb_of S257 ⟨by decide, by decide⟩
      obtain ⟨T258, h258, X258, e258, W258, st258⟩ := stB X256 hx hZ e256 Ar257 (j := (3 : Int32)) hin257 (g := (mkF m 97 #[.val (.int p1), .val (.int p2), .val (.int p3), .val (.int p4), .val (.long q5), .second, .val (.int len), .val (.int (1 : Int32)), .val (.ref b250), .unset, .unset, .unset, .unset, .unset, .unset, .unset] [(.int (((((q5.toUInt64 >>> ((16 : Int32) &&& 0x3f).toInt64.toUInt64).toInt64) &&& (127 : Int64)).toInt32).toInt8.toInt32)), (.int (3 : Int32)), (.ref b250)])) rfl rfl (hb hby at_97)
      have V258 : Arv Z h258 b250 k250 .byte (6 : Int32) [(.int (nar .byte (((p4 &&& (127 : Int32)) ||| (128 : Int32)).toInt8.toInt32))), (.int (nar .byte (((q5 &&& (127 : Int64)).toInt32).toInt8.toInt32))), (.int (nar .byte (((((q5.toUInt64 >>> ((8 : Int32) &&& 0x3f).toInt64.toUInt64).toInt64) &&& (127 : Int64)).toInt32).toInt8.toInt32))), (.int (nar .byte (((((q5.toUInt64 >>> ((16 : Int32) &&& 0x3f).toInt64.toUInt64).toInt64) &&& (127 : Int64)).toInt32).toInt8.toInt32))), (.int (0 : Int32)), (.int (0 : Int32))] (.int (0 : Int32)) := Arv.set Ar257 q257 S257 M257 H257 G257 (fits_nar_byte _) W258 3 rfl (Nat.le_of_ble_eq_true rfl)
      have N258 := Fr.snoc X258 N256 g_b250
      have K258 := K256.wr W258 (Or.inr sz_b250)
      have Z258 : n0 ≤ h258.size := (Nat.le_trans Z256 (Keep.of_wr W258).1)
      obtain ⟨cl259, Ar259, q259, S259, M259, H259, G259⟩ := V258
      have hin259 : ¬ ((4 : Int32) < 0 ∨ cl259.slots.size ≤ ((4 : Int32)).toNatClampNeg) := inb_of S259 ⟨by decide, by decide⟩
      obtain ⟨T260, h260, X260, e260, W260, st260⟩ := stB X258 hx hZ e258 Ar259 (j := (4 : Int32)) hin259 (g := (mkF m 112 #[.val (.int p1), .val (.int p2), .val (.int p3), .val (.int p4), .val (.long q5), .second, .val (.int len), .val (.int (1 : Int32)), .val (.ref b250), .unset, .unset, .unset, .unset, .unset, .unset, .unset] [(.int (((((q5.toUInt64 >>> ((24 : Int32) &&& 0x3f).toInt64.toUInt64).toInt64) &&& (127 : Int64)).toInt32).toInt8.toInt32)), (.int (4 : Int32)), (.ref b250)])) rfl rfl (hb hby at_112)
      have V260 : Arv Z h260 b250 k250 .byte (6 : Int32) [(.int (nar .byte (((p4 &&& (127 : Int32)) ||| (128 : Int32)).toInt8.toInt32))), (.int (nar .byte (((q5 &&& (127 : Int64)).toInt32).toInt8.toInt32))), (.int (nar .byte (((((q5.toUInt64 >>> ((8 : Int32) &&& 0x3f).toInt64.toUInt64).toInt64) &&& (127 : Int64)).toInt32).toInt8.toInt32))), (.int (nar .byte (((((q5.toUInt64 >>> ((16 : Int32) &&& 0x3f).toInt64.toUInt64).toInt64) &&& (127 : Int64)).toInt32).toInt8.toInt32))), (.int (nar .byte (((((q5.toUInt64 >>> ((24 : Int32) &&& 0x3f).toInt64.toUInt64).toInt64) &&& (127 : Int64)).toInt32).toInt8.toInt32))), (.int (0 : Int32))] (.int (0 : Int32)) := Arv.set Ar259 q259 S259 M259 H259 G259 (fits_nar_byte _) W260 4 rfl (Nat.le_of_ble_eq_true rfl)
      have N260 := Fr.snoc X260 N258 g_b250
      have K260 := K258.wr W260 (Or.inr sz_b250)
      have Z260 : n0 ≤ h260.size := (Nat.le_trans Z258 (Keep.of_wr W260).1)
      obtain ⟨cl261, Ar261, q261, S261, M261, H261, G261⟩ := V260
      have hin261 : ¬ ((5 : Int32) < 0 ∨ cl261.slots.size ≤ ((5 : Int32)).toNatClampNeg) := inb_of S261 ⟨by decide, by decide⟩
      obtain ⟨T262, h262, X262, e262, W262, st262⟩ := stB X260 hx hZ e260 Ar261 (j := (5 : Int32)) hin261 (g := (mkF m 127 #[.val (.int p1), .val (.int p2), .val (.int p3), .val (.int p4), .val (.long q5), .second, .val (.int len), .val (.int (1 : Int32)), .val (.ref b250), .unset, .unset, .unset, .unset, .unset, .unset, .unset] [(.int (((((q5.toUInt64 >>> ((32 : Int32) &&& 0x3f).toInt64.toUInt64).toInt64) &&& (127 : Int64)).toInt32).toInt8.toInt32)), (.int (5 : Int32)), (.ref b250)])) rfl rfl (hb hby at_127)
      have V262 : Arv Z h262 b250 k250 .byte (6 : Int32) [(.int (nar .byte (((p4 &&& (127 : Int32)) ||| (128 : Int32)).toInt8.toInt32))), (.int (nar .byte (((q5 &&& (127 : Int64)).toInt32).toInt8.toInt32))), (.int (nar .byte (((((q5.toUInt64 >>> ((8 : Int32) &&& 0x3f).toInt64.toUInt64).toInt64) &&& (127 : Int64)).toInt32).toInt8.toInt32))), (.int (nar .byte (((((q5.toUInt64 >>> ((16 : Int32) &&& 0x3f).toInt64.toUInt64).toInt64) &&& (127 : Int64)).toInt32).toInt8.toInt32))), (.int (nar .byte (((((q5.toUInt64 >>> ((24 : Int32) &&& 0x3f).toInt64.toUInt64).toInt64) &&& (127 : Int64)).toInt32).toInt8.toInt32))), (.int (nar .byte (((((q5.toUInt64 >>> ((32 : Int32) &&& 0x3f).toInt64.toUInt64).toInt64) &&& (127 : Int64)).toInt32).toInt8.toInt32)))] (.int (0 : Int32)) := Arv.set Ar261 q261 S261 M261 H261 G261 (fits_nar_byte _) W262 5 rfl (Nat.le_of_ble_eq_true rfl)
      have N262 := Fr.snoc X262 N260 g_b250
      have K262 := K260.wr W262 (Or.inr sz_b250)
      have Z262 : n0 ≤ h262.size := (Nat.le_trans Z260 (Keep.of_wr W262).1)
      obtain ⟨cl, Ar, qA, SA, MA, HA, GA⟩ := V262
      obtain ⟨hall, hbits, hat0⟩ := own_all SA HA (own_bitL _) (own_bitL _) (own_bitL _) (own_bitL _) (own_bitL _)
      have hbit0 : ¬ (((atv cl 0) &&& (128 : Int32)).toInt = 0) := by rw [hat0]; exact own_bit1 p4
      obtain ⟨T263, h263, X263, e263, E263, A263, D263, -, st263⟩ := newO X262 hx hZ hown (hw _ (List.mem_of_getElem? (i := 3) rfl)) (hw _ (List.mem_of_getElem? (i := 4) rfl)) (hw _ (List.mem_of_getElem? (i := 5) rfl)) e262 (g := (mkF m 128 #[.val (.int p1), .val (.int p2), .val (.int p3), .val (.int p4), .val (.long q5), .second, .val (.int len), .val (.int (1 : Int32)), .val (.ref b250), .unset, .unset, .unset, .unset, .unset, .unset, .unset] [])) rfl (hb hby at_128) (by decide) (by decide)
      obtain ⟨b263, g263⟩ : ∃ z, z = h262.size := ⟨_, rfl⟩
      rw [← g263] at A263 D263 st263
      have g_b263 : n0 ≤ b263 := Nat.le_trans Z262 (Nat.le_of_eq g263.symm)
      have sz_b263 : h0.size ≤ b263 := Nat.le_trans K262.1 (Nat.le_of_eq g263.symm)
      have ne264 : b250 ≠ b263 := Nat.ne_of_lt (Nat.lt_of_lt_of_le Ar.lt (Nat.le_of_eq g263.symm))
      have Ax265 := Ar.ext E263
      have F263_bytes : Fld Z h263 b263 "com/example/pesquisa/pesquisa/index/ByteSource" "bytes" "[B" .null := D263 (Or.inr (hw _ (List.mem_of_getElem? (i := 13) rfl))) (ty := (.array .byte)) (by decide)
      have F263_end : Fld Z h263 b263 "com/example/pesquisa/pesquisa/index/ByteSource" "end" "I" (.int (0 : Int32)) := D263 (Or.inr (hw _ (List.mem_of_getElem? (i := 15) rfl))) (ty := .int) (by decide)
      have F263_position : Fld Z h263 b263 "com/example/pesquisa/pesquisa/index/ByteSource" "position" "I" (.int (0 : Int32)) := D263 (Or.inl (hw _ (List.mem_of_getElem? (i := 22) rfl))) (ty := .int) (by decide)
      have K263 := K262.ext E263
      have Z263 : n0 ≤ h263.size := Nat.le_trans Z262 E263.1
      obtain ⟨_, _, ⟨T266, L266, k266, n266⟩, -, X266, ⟨Lc266, hQ266, l266, y266, z266⟩, st266⟩ := X263.specialBack hx (y := (⟨"com/example/pesquisa/pesquisa/index/ByteSource", "<init>", "([BI)V"⟩ : MethodName)) rfl hown (mvT hZ (hw _ (List.mem_of_getElem? (i := 6) rfl))) (mvT hZ (hw _ (List.mem_of_getElem? (i := 7) rfl))) (mvT hZ (hw _ (List.mem_of_getElem? (i := 8) rfl))) (by decide) (backOf (W := 1) (rm1 l Z a0 hw [] b263 b250 len h263 n0 Z263 A263 F263_bytes F263_end F263_position g_b263) hZ (hw _ (List.mem_of_getElem? (i := 8) rfl)) (hw _ (List.mem_of_getElem? (i := 5) rfl)) (by decide) (by decide)) (g := (mkF m 136 #[.val (.int p1), .val (.int p2), .val (.int p3), .val (.int p4), .val (.long q5), .second, .val (.int len), .val (.int (1 : Int32)), .val (.ref b250), .unset, .unset, .unset, .unset, .unset, .unset, .unset] [(.int len), (.ref b250), (.ref b263), (.ref b263)])) rfl (by rw [hml]; rfl) (Steps.refl _) (a := b263) (argsL := [(.ref b250), (.int len)]) (rest := [(.ref b263)]) (lenOf pd_0_0 rfl) rfl (by show 2 * 0 + _ ≤ _; exact Nat.le_of_eq rfl) (hb hby at_136) (fun _ _ => ⟨rfl, e263, (by decide : 2 + 0 ≤ _), (by decide : 9 + 0 ≤ _)⟩)
      dsimp only [Pt.U, Pt.locs, Pt.cells, Pt.slots] at X266 l266 y266 z266 st266 hQ266
      subst l266 y266 z266
      obtain ⟨hv266, N266q, K266, E266x, F266_bytes, F266_end, F266_position⟩ := hQ266
      subst hv266
      have N266 := Fr.app N262 N266q
      have Ak267 := own_arr_keep Ax265 K266 (ninS ne264 nin0)
      have Ek268 := A263.keep K266
      have KK266 := K263.trans K266 (allS (Or.inr sz_b263) all0)
      have Z266 : n0 ≤ T266.heap.size := Nat.le_trans Z263 K266.1
      obtain ⟨cq269, kq269, q269a, q269b, q269c⟩ := isOf hZ rfl E266x
      obtain ⟨_, _, ⟨T269, L269, k269, n269⟩, -, X269, ⟨Lc269, hQ269, l269, y269, z269⟩, st269⟩ := X266.virtualBack hx (y := (⟨"com/example/pesquisa/pesquisa/index/ByteSource", "hasMore", "()Z"⟩ : MethodName)) (z := (⟨"com/example/pesquisa/pesquisa/index/ByteSource", "hasMore", "()Z"⟩ : MethodName)) hown (mvT hZ (hw _ (List.mem_of_getElem? (i := 16) rfl))) (mvT hZ (hw _ (List.mem_of_getElem? (i := 17) rfl))) (notFace_of_selects (args := #[]) (mvT hZ (hw _ (List.mem_of_getElem? (i := 19) rfl)))) (mvT hZ (hw _ (List.mem_of_getElem? (i := 19) rfl))) (mvT hZ (hw _ (List.mem_of_getElem? (i := 18) rfl))) (by decide) (backOf (W := 0) (rm3 l Z a0 hw [] b263 len (0 : Int32) T266.heap n0 Z266 F266_end F266_position) hZ (hw _ (List.mem_of_getElem? (i := 20) rfl)) (hw _ (List.mem_of_getElem? (i := 5) rfl)) (by decide) (by decide)) q269a q269c (g := (mkF m 143 #[.val (.int p1), .val (.int p2), .val (.int p3), .val (.int p4), .val (.long q5), .second, .val (.int len), .val (.int (1 : Int32)), .val (.ref b250), .val (.ref b263), .unset, .unset, .unset, .unset, .unset, .unset] [(.ref b263)])) rfl (by rw [hml]; rfl) (Steps.refl _) (argsL := []) (rest := []) (lenOf pd_0_1 rfl) rfl (by show 2 * 0 + _ ≤ _; exact Nat.le_of_eq rfl) (hb hby at_143) (fun _ _ => ⟨rfl, rfl, (by decide : 2 + 0 ≤ _), (by decide : 9 + 0 ≤ _)⟩)
      dsimp only [Pt.U, Pt.locs, Pt.cells, Pt.slots] at X269 l269 y269 z269 st269 hQ269
      subst l269 y269 z269
      obtain ⟨hv269, N269q, e269⟩ := hQ269
      subst hv269
      have N269 := Fr.app N266 N269q
      have pre270 : ∀ t, Steps p.tables e below (T269.setTop (mkF m 152 #[.val (.int p1), .val (.int p2), .val (.int p3), .val (.int p4), .val (.long q5), .second, .val (.int len), .val (.int (1 : Int32)), .val (.ref b250), .val (.ref b263), .val (.int (own_v3 (0 : Int32) len)), .unset, .unset, .unset, .unset, .unset] [(.int len), (.int (own_v3 (0 : Int32) len))])) t → Steps p.tables e below (s₁.setTop (entryFrame m #[(.int p1), (.int p2), (.int p3), (.int p4), (.long q5)] maxLocals)) t := fun t9 k9 => pre176 t9 (by
          show Steps p.tables e below (s₁.setTop (mkF m 18 #[.val (.int p1), .val (.int p2), .val (.int p3), .val (.int p4), .val (.long q5), .second, .val (.int len), .unset, .unset, .unset, .unset, .unset, .unset, .unset, .unset, .unset] [(.int (2 : Int32)), (.int len)])) _
          refine XS.icmpNo X0.here hx rfl (hb hby at_18) rfl (own_lt_f (a := len.toInt) (b := (2 : Int)) rfl (by decide) b177) ?_
          show Steps p.tables e below (s₁.setTop (mkF m 21 #[.val (.int p1), .val (.int p2), .val (.int p3), .val (.int p4), .val (.long q5), .second, .val (.int len), .unset, .unset, .unset, .unset, .unset, .unset, .unset, .unset, .unset] [])) _
          refine XS.iconst X0.here hx rfl (hb hby at_21) ?_
          show Steps p.tables e below (s₁.setTop (mkF m 22 #[.val (.int p1), .val (.int p2), .val (.int p3), .val (.int p4), .val (.long q5), .second, .val (.int len), .unset, .unset, .unset, .unset, .unset, .unset, .unset, .unset, .unset] [(.int (1 : Int32))])) _
          refine XS.goto X0.here hx rfl (pc0 := 22) (pc' := 26) rfl (hb hby at_22) (by decide) (by decide) ?_
          show Steps p.tables e below (s₁.setTop (mkF m 26 #[.val (.int p1), .val (.int p2), .val (.int p3), .val (.int p4), .val (.long q5), .second, .val (.int len), .unset, .unset, .unset, .unset, .unset, .unset, .unset, .unset, .unset] [(.int (1 : Int32))])) _
          refine XS.istore X0.here hx rfl (hb hby at_26) rfl (l' := #[.val (.int p1), .val (.int p2), .val (.int p3), .val (.int p4), .val (.long q5), .second, .val (.int len), .val (.int (1 : Int32)), .unset, .unset, .unset, .unset, .unset, .unset, .unset, .unset]) rfl ?_
          show Steps p.tables e below (s₁.setTop (mkF m 28 #[.val (.int p1), .val (.int p2), .val (.int p3), .val (.int p4), .val (.long q5), .second, .val (.int len), .val (.int (1 : Int32)), .unset, .unset, .unset, .unset, .unset, .unset, .unset, .unset] [])) _
          refine XS.bipush X0.here hx rfl (hb hby at_28) ?_
          show Steps p.tables e below (s₁.setTop (mkF m 30 #[.val (.int p1), .val (.int p2), .val (.int p3), .val (.int p4), .val (.long q5), .second, .val (.int len), .val (.int (1 : Int32)), .unset, .unset, .unset, .unset, .unset, .unset, .unset, .unset] [(.int (6 : Int32))])) _
          refine st250 _ ?_
          show Steps p.tables e below (T250.setTop (mkF m 32 #[.val (.int p1), .val (.int p2), .val (.int p3), .val (.int p4), .val (.long q5), .second, .val (.int len), .val (.int (1 : Int32)), .unset, .unset, .unset, .unset, .unset, .unset, .unset, .unset] [(.ref b250)])) _
          refine XS.astore X250.here hx rfl (hb hby at_32) rfl rfl (l' := #[.val (.int p1), .val (.int p2), .val (.int p3), .val (.int p4), .val (.long q5), .second, .val (.int len), .val (.int (1 : Int32)), .val (.ref b250), .unset, .unset, .unset, .unset, .unset, .unset, .unset]) rfl ?_
          show Steps p.tables e below (T250.setTop (mkF m 34 #[.val (.int p1), .val (.int p2), .val (.int p3), .val (.int p4), .val (.long q5), .second, .val (.int len), .val (.int (1 : Int32)), .val (.ref b250), .unset, .unset, .unset, .unset, .unset, .unset, .unset] [])) _
          refine XS.aload X250.here hx rfl (hb hby at_34) rfl rfl ?_
          show Steps p.tables e below (T250.setTop (mkF m 36 #[.val (.int p1), .val (.int p2), .val (.int p3), .val (.int p4), .val (.long q5), .second, .val (.int len), .val (.int (1 : Int32)), .val (.ref b250), .unset, .unset, .unset, .unset, .unset, .unset, .unset] [(.ref b250)])) _
          refine XS.iconst X250.here hx rfl (hb hby at_36) ?_
          show Steps p.tables e below (T250.setTop (mkF m 37 #[.val (.int p1), .val (.int p2), .val (.int p3), .val (.int p4), .val (.long q5), .second, .val (.int len), .val (.int (1 : Int32)), .val (.ref b250), .unset, .unset, .unset, .unset, .unset, .unset, .unset] [(.int (0 : Int32)), (.ref b250)])) _
          refine XS.iloadN X250.here hx rfl (hb hby at_37) rfl ?_
          show Steps p.tables e below (T250.setTop (mkF m 38 #[.val (.int p1), .val (.int p2), .val (.int p3), .val (.int p4), .val (.long q5), .second, .val (.int len), .val (.int (1 : Int32)), .val (.ref b250), .unset, .unset, .unset, .unset, .unset, .unset, .unset] [(.int p4), (.int (0 : Int32)), (.ref b250)])) _
          refine XS.bipush X250.here hx rfl (hb hby at_38) ?_
          show Steps p.tables e below (T250.setTop (mkF m 40 #[.val (.int p1), .val (.int p2), .val (.int p3), .val (.int p4), .val (.long q5), .second, .val (.int len), .val (.int (1 : Int32)), .val (.ref b250), .unset, .unset, .unset, .unset, .unset, .unset, .unset] [(.int (127 : Int32)), (.int p4), (.int (0 : Int32)), (.ref b250)])) _
          refine XS.iand X250.here hx rfl (hb hby at_40) rfl ?_
          show Steps p.tables e below (T250.setTop (mkF m 41 #[.val (.int p1), .val (.int p2), .val (.int p3), .val (.int p4), .val (.long q5), .second, .val (.int len), .val (.int (1 : Int32)), .val (.ref b250), .unset, .unset, .unset, .unset, .unset, .unset, .unset] [(.int (p4 &&& (127 : Int32))), (.int (0 : Int32)), (.ref b250)])) _
          refine XS.iload X250.here hx rfl (hb hby at_41) rfl ?_
          show Steps p.tables e below (T250.setTop (mkF m 43 #[.val (.int p1), .val (.int p2), .val (.int p3), .val (.int p4), .val (.long q5), .second, .val (.int len), .val (.int (1 : Int32)), .val (.ref b250), .unset, .unset, .unset, .unset, .unset, .unset, .unset] [(.int (1 : Int32)), (.int (p4 &&& (127 : Int32))), (.int (0 : Int32)), (.ref b250)])) _
          refine XS.ifNo X250.here hx rfl (hb hby at_43) rfl ((if0 _ _).trans (own_eq_f (a := (1 : Int)) (b := (0 : Int)) (by decide) (by decide) (by decide))) ?_
          show Steps p.tables e below (T250.setTop (mkF m 46 #[.val (.int p1), .val (.int p2), .val (.int p3), .val (.int p4), .val (.long q5), .second, .val (.int len), .val (.int (1 : Int32)), .val (.ref b250), .unset, .unset, .unset, .unset, .unset, .unset, .unset] [(.int (p4 &&& (127 : Int32))), (.int (0 : Int32)), (.ref b250)])) _
          refine XS.sipush X250.here hx rfl (hb hby at_46) ?_
          show Steps p.tables e below (T250.setTop (mkF m 49 #[.val (.int p1), .val (.int p2), .val (.int p3), .val (.int p4), .val (.long q5), .second, .val (.int len), .val (.int (1 : Int32)), .val (.ref b250), .unset, .unset, .unset, .unset, .unset, .unset, .unset] [(.int (128 : Int32)), (.int (p4 &&& (127 : Int32))), (.int (0 : Int32)), (.ref b250)])) _
          refine XS.goto X250.here hx rfl (pc0 := 49) (pc' := 53) rfl (hb hby at_49) (by decide) (by decide) ?_
          show Steps p.tables e below (T250.setTop (mkF m 53 #[.val (.int p1), .val (.int p2), .val (.int p3), .val (.int p4), .val (.long q5), .second, .val (.int len), .val (.int (1 : Int32)), .val (.ref b250), .unset, .unset, .unset, .unset, .unset, .unset, .unset] [(.int (128 : Int32)), (.int (p4 &&& (127 : Int32))), (.int (0 : Int32)), (.ref b250)])) _
          refine XS.ior X250.here hx rfl (hb hby at_53) rfl ?_
          show Steps p.tables e below (T250.setTop (mkF m 54 #[.val (.int p1), .val (.int p2), .val (.int p3), .val (.int p4), .val (.long q5), .second, .val (.int len), .val (.int (1 : Int32)), .val (.ref b250), .unset, .unset, .unset, .unset, .unset, .unset, .unset] [(.int ((p4 &&& (127 : Int32)) ||| (128 : Int32))), (.int (0 : Int32)), (.ref b250)])) _
          refine XS.i2b X250.here hx rfl (hb hby at_54) rfl ?_
          show Steps p.tables e below (T250.setTop (mkF m 55 #[.val (.int p1), .val (.int p2), .val (.int p3), .val (.int p4), .val (.long q5), .second, .val (.int len), .val (.int (1 : Int32)), .val (.ref b250), .unset, .unset, .unset, .unset, .unset, .unset, .unset] [(.int (((p4 &&& (127 : Int32)) ||| (128 : Int32)).toInt8.toInt32)), (.int (0 : Int32)), (.ref b250)])) _
          refine st252 _ ?_
          show Steps p.tables e below (T252.setTop (mkF m 56 #[.val (.int p1), .val (.int p2), .val (.int p3), .val (.int p4), .val (.long q5), .second, .val (.int len), .val (.int (1 : Int32)), .val (.ref b250), .unset, .unset, .unset, .unset, .unset, .unset, .unset] [])) _
          refine XS.aload X252.here hx rfl (hb hby at_56) rfl rfl ?_
          show Steps p.tables e below (T252.setTop (mkF m 58 #[.val (.int p1), .val (.int p2), .val (.int p3), .val (.int p4), .val (.long q5), .second, .val (.int len), .val (.int (1 : Int32)), .val (.ref b250), .unset, .unset, .unset, .unset, .unset, .unset, .unset] [(.ref b250)])) _
          refine XS.iconst X252.here hx rfl (hb hby at_58) ?_
          show Steps p.tables e below (T252.setTop (mkF m 59 #[.val (.int p1), .val (.int p2), .val (.int p3), .val (.int p4), .val (.long q5), .second, .val (.int len), .val (.int (1 : Int32)), .val (.ref b250), .unset, .unset, .unset, .unset, .unset, .unset, .unset] [(.int (1 : Int32)), (.ref b250)])) _
          refine XS.lload X252.here hx rfl (hb hby at_59) rfl ?_
          show Steps p.tables e below (T252.setTop (mkF m 61 #[.val (.int p1), .val (.int p2), .val (.int p3), .val (.int p4), .val (.long q5), .second, .val (.int len), .val (.int (1 : Int32)), .val (.ref b250), .unset, .unset, .unset, .unset, .unset, .unset, .unset] [(.long q5), (.int (1 : Int32)), (.ref b250)])) _
          refine X252.ldc2Long hx hown (mvT hZ (hw _ (List.mem_of_getElem? (i := 2) rfl))) (g := (mkF m 61 #[.val (.int p1), .val (.int p2), .val (.int p3), .val (.int p4), .val (.long q5), .second, .val (.int len), .val (.int (1 : Int32)), .val (.ref b250), .unset, .unset, .unset, .unset, .unset, .unset, .unset] [(.long q5), (.int (1 : Int32)), (.ref b250)])) rfl (hb hby at_61) _ ?_
          show Steps p.tables e below (T252.setTop (mkF m 64 #[.val (.int p1), .val (.int p2), .val (.int p3), .val (.int p4), .val (.long q5), .second, .val (.int len), .val (.int (1 : Int32)), .val (.ref b250), .unset, .unset, .unset, .unset, .unset, .unset, .unset] [(.long (127 : Int64)), (.long q5), (.int (1 : Int32)), (.ref b250)])) _
          refine XS.land X252.here hx rfl (hb hby at_64) rfl ?_
          show Steps p.tables e below (T252.setTop (mkF m 65 #[.val (.int p1), .val (.int p2), .val (.int p3), .val (.int p4), .val (.long q5), .second, .val (.int len), .val (.int (1 : Int32)), .val (.ref b250), .unset, .unset, .unset, .unset, .unset, .unset, .unset] [(.long (q5 &&& (127 : Int64))), (.int (1 : Int32)), (.ref b250)])) _
          refine XS.l2i X252.here hx rfl (hb hby at_65) rfl ?_
          show Steps p.tables e below (T252.setTop (mkF m 66 #[.val (.int p1), .val (.int p2), .val (.int p3), .val (.int p4), .val (.long q5), .second, .val (.int len), .val (.int (1 : Int32)), .val (.ref b250), .unset, .unset, .unset, .unset, .unset, .unset, .unset] [(.int ((q5 &&& (127 : Int64)).toInt32)), (.int (1 : Int32)), (.ref b250)])) _
          refine XS.i2b X252.here hx rfl (hb hby at_66) rfl ?_
          show Steps p.tables e below (T252.setTop (mkF m 67 #[.val (.int p1), .val (.int p2), .val (.int p3), .val (.int p4), .val (.long q5), .second, .val (.int len), .val (.int (1 : Int32)), .val (.ref b250), .unset, .unset, .unset, .unset, .unset, .unset, .unset] [(.int (((q5 &&& (127 : Int64)).toInt32).toInt8.toInt32)), (.int (1 : Int32)), (.ref b250)])) _
          refine st254 _ ?_
          show Steps p.tables e below (T254.setTop (mkF m 68 #[.val (.int p1), .val (.int p2), .val (.int p3), .val (.int p4), .val (.long q5), .second, .val (.int len), .val (.int (1 : Int32)), .val (.ref b250), .unset, .unset, .unset, .unset, .unset, .unset, .unset] [])) _
          refine XS.aload X254.here hx rfl (hb hby at_68) rfl rfl ?_
          show Steps p.tables e below (T254.setTop (mkF m 70 #[.val (.int p1), .val (.int p2), .val (.int p3), .val (.int p4), .val (.long q5), .second, .val (.int len), .val (.int (1 : Int32)), .val (.ref b250), .unset, .unset, .unset, .unset, .unset, .unset, .unset] [(.ref b250)])) _
          refine XS.iconst X254.here hx rfl (hb hby at_70) ?_
          show Steps p.tables e below (T254.setTop (mkF m 71 #[.val (.int p1), .val (.int p2), .val (.int p3), .val (.int p4), .val (.long q5), .second, .val (.int len), .val (.int (1 : Int32)), .val (.ref b250), .unset, .unset, .unset, .unset, .unset, .unset, .unset] [(.int (2 : Int32)), (.ref b250)])) _
          refine XS.lload X254.here hx rfl (hb hby at_71) rfl ?_
          show Steps p.tables e below (T254.setTop (mkF m 73 #[.val (.int p1), .val (.int p2), .val (.int p3), .val (.int p4), .val (.long q5), .second, .val (.int len), .val (.int (1 : Int32)), .val (.ref b250), .unset, .unset, .unset, .unset, .unset, .unset, .unset] [(.long q5), (.int (2 : Int32)), (.ref b250)])) _
          refine XS.bipush X254.here hx rfl (hb hby at_73) ?_
          show Steps p.tables e below (T254.setTop (mkF m 75 #[.val (.int p1), .val (.int p2), .val (.int p3), .val (.int p4), .val (.long q5), .second, .val (.int len), .val (.int (1 : Int32)), .val (.ref b250), .unset, .unset, .unset, .unset, .unset, .unset, .unset] [(.int (8 : Int32)), (.long q5), (.int (2 : Int32)), (.ref b250)])) _
          refine XS.lushr X254.here hx rfl (hb hby at_75) rfl ?_
          show Steps p.tables e below (T254.setTop (mkF m 76 #[.val (.int p1), .val (.int p2), .val (.int p3), .val (.int p4), .val (.long q5), .second, .val (.int len), .val (.int (1 : Int32)), .val (.ref b250), .unset, .unset, .unset, .unset, .unset, .unset, .unset] [(.long ((q5.toUInt64 >>> ((8 : Int32) &&& 0x3f).toInt64.toUInt64).toInt64)), (.int (2 : Int32)), (.ref b250)])) _
          refine X254.ldc2Long hx hown (mvT hZ (hw _ (List.mem_of_getElem? (i := 2) rfl))) (g := (mkF m 76 #[.val (.int p1), .val (.int p2), .val (.int p3), .val (.int p4), .val (.long q5), .second, .val (.int len), .val (.int (1 : Int32)), .val (.ref b250), .unset, .unset, .unset, .unset, .unset, .unset, .unset] [(.long ((q5.toUInt64 >>> ((8 : Int32) &&& 0x3f).toInt64.toUInt64).toInt64)), (.int (2 : Int32)), (.ref b250)])) rfl (hb hby at_76) _ ?_
          show Steps p.tables e below (T254.setTop (mkF m 79 #[.val (.int p1), .val (.int p2), .val (.int p3), .val (.int p4), .val (.long q5), .second, .val (.int len), .val (.int (1 : Int32)), .val (.ref b250), .unset, .unset, .unset, .unset, .unset, .unset, .unset] [(.long (127 : Int64)), (.long ((q5.toUInt64 >>> ((8 : Int32) &&& 0x3f).toInt64.toUInt64).toInt64)), (.int (2 : Int32)), (.ref b250)])) _
          refine XS.land X254.here hx rfl (hb hby at_79) rfl ?_
          show Steps p.tables e below (T254.setTop (mkF m 80 #[.val (.int p1), .val (.int p2), .val (.int p3), .val (.int p4), .val (.long q5), .second, .val (.int len), .val (.int (1 : Int32)), .val (.ref b250), .unset, .unset, .unset, .unset, .unset, .unset, .unset] [(.long (((q5.toUInt64 >>> ((8 : Int32) &&& 0x3f).toInt64.toUInt64).toInt64) &&& (127 : Int64))), (.int (2 : Int32)), (.ref b250)])) _
          refine XS.l2i X254.here hx rfl (hb hby at_80) rfl ?_
          show Steps p.tables e below (T254.setTop (mkF m 81 #[.val (.int p1), .val (.int p2), .val (.int p3), .val (.int p4), .val (.long q5), .second, .val (.int len), .val (.int (1 : Int32)), .val (.ref b250), .unset, .unset, .unset, .unset, .unset, .unset, .unset] [(.int ((((q5.toUInt64 >>> ((8 : Int32) &&& 0x3f).toInt64.toUInt64).toInt64) &&& (127 : Int64)).toInt32)), (.int (2 : Int32)), (.ref b250)])) _
          refine XS.i2b X254.here hx rfl (hb hby at_81) rfl ?_
          show Steps p.tables e below (T254.setTop (mkF m 82 #[.val (.int p1), .val (.int p2), .val (.int p3), .val (.int p4), .val (.long q5), .second, .val (.int len), .val (.int (1 : Int32)), .val (.ref b250), .unset, .unset, .unset, .unset, .unset, .unset, .unset] [(.int (((((q5.toUInt64 >>> ((8 : Int32) &&& 0x3f).toInt64.toUInt64).toInt64) &&& (127 : Int64)).toInt32).toInt8.toInt32)), (.int (2 : Int32)), (.ref b250)])) _
          refine st256 _ ?_
          show Steps p.tables e below (T256.setTop (mkF m 83 #[.val (.int p1), .val (.int p2), .val (.int p3), .val (.int p4), .val (.long q5), .second, .val (.int len), .val (.int (1 : Int32)), .val (.ref b250), .unset, .unset, .unset, .unset, .unset, .unset, .unset] [])) _
          refine XS.aload X256.here hx rfl (hb hby at_83) rfl rfl ?_
          show Steps p.tables e below (T256.setTop (mkF m 85 #[.val (.int p1), .val (.int p2), .val (.int p3), .val (.int p4), .val (.long q5), .second, .val (.int len), .val (.int (1 : Int32)), .val (.ref b250), .unset, .unset, .unset, .unset, .unset, .unset, .unset] [(.ref b250)])) _
          refine XS.iconst X256.here hx rfl (hb hby at_85) ?_
          show Steps p.tables e below (T256.setTop (mkF m 86 #[.val (.int p1), .val (.int p2), .val (.int p3), .val (.int p4), .val (.long q5), .second, .val (.int len), .val (.int (1 : Int32)), .val (.ref b250), .unset, .unset, .unset, .unset, .unset, .unset, .unset] [(.int (3 : Int32)), (.ref b250)])) _
          refine XS.lload X256.here hx rfl (hb hby at_86) rfl ?_
          show Steps p.tables e below (T256.setTop (mkF m 88 #[.val (.int p1), .val (.int p2), .val (.int p3), .val (.int p4), .val (.long q5), .second, .val (.int len), .val (.int (1 : Int32)), .val (.ref b250), .unset, .unset, .unset, .unset, .unset, .unset, .unset] [(.long q5), (.int (3 : Int32)), (.ref b250)])) _
          refine XS.bipush X256.here hx rfl (hb hby at_88) ?_
          show Steps p.tables e below (T256.setTop (mkF m 90 #[.val (.int p1), .val (.int p2), .val (.int p3), .val (.int p4), .val (.long q5), .second, .val (.int len), .val (.int (1 : Int32)), .val (.ref b250), .unset, .unset, .unset, .unset, .unset, .unset, .unset] [(.int (16 : Int32)), (.long q5), (.int (3 : Int32)), (.ref b250)])) _
          refine XS.lushr X256.here hx rfl (hb hby at_90) rfl ?_
          show Steps p.tables e below (T256.setTop (mkF m 91 #[.val (.int p1), .val (.int p2), .val (.int p3), .val (.int p4), .val (.long q5), .second, .val (.int len), .val (.int (1 : Int32)), .val (.ref b250), .unset, .unset, .unset, .unset, .unset, .unset, .unset] [(.long ((q5.toUInt64 >>> ((16 : Int32) &&& 0x3f).toInt64.toUInt64).toInt64)), (.int (3 : Int32)), (.ref b250)])) _
          refine X256.ldc2Long hx hown (mvT hZ (hw _ (List.mem_of_getElem? (i := 2) rfl))) (g := (mkF m 91 #[.val (.int p1), .val (.int p2), .val (.int p3), .val (.int p4), .val (.long q5), .second, .val (.int len), .val (.int (1 : Int32)), .val (.ref b250), .unset, .unset, .unset, .unset, .unset, .unset, .unset] [(.long ((q5.toUInt64 >>> ((16 : Int32) &&& 0x3f).toInt64.toUInt64).toInt64)), (.int (3 : Int32)), (.ref b250)])) rfl (hb hby at_91) _ ?_
          show Steps p.tables e below (T256.setTop (mkF m 94 #[.val (.int p1), .val (.int p2), .val (.int p3), .val (.int p4), .val (.long q5), .second, .val (.int len), .val (.int (1 : Int32)), .val (.ref b250), .unset, .unset, .unset, .unset, .unset, .unset, .unset] [(.long (127 : Int64)), (.long ((q5.toUInt64 >>> ((16 : Int32) &&& 0x3f).toInt64.toUInt64).toInt64)), (.int (3 : Int32)), (.ref b250)])) _
          refine XS.land X256.here hx rfl (hb hby at_94) rfl ?_
          show Steps p.tables e below (T256.setTop (mkF m 95 #[.val (.int p1), .val (.int p2), .val (.int p3), .val (.int p4), .val (.long q5), .second, .val (.int len), .val (.int (1 : Int32)), .val (.ref b250), .unset, .unset, .unset, .unset, .unset, .unset, .unset] [(.long (((q5.toUInt64 >>> ((16 : Int32) &&& 0x3f).toInt64.toUInt64).toInt64) &&& (127 : Int64))), (.int (3 : Int32)), (.ref b250)])) _
          refine XS.l2i X256.here hx rfl (hb hby at_95) rfl ?_
          show Steps p.tables e below (T256.setTop (mkF m 96 #[.val (.int p1), .val (.int p2), .val (.int p3), .val (.int p4), .val (.long q5), .second, .val (.int len), .val (.int (1 : Int32)), .val (.ref b250), .unset, .unset, .unset, .unset, .unset, .unset, .unset] [(.int ((((q5.toUInt64 >>> ((16 : Int32) &&& 0x3f).toInt64.toUInt64).toInt64) &&& (127 : Int64)).toInt32)), (.int (3 : Int32)), (.ref b250)])) _
          refine XS.i2b X256.here hx rfl (hb hby at_96) rfl ?_
          show Steps p.tables e below (T256.setTop (mkF m 97 #[.val (.int p1), .val (.int p2), .val (.int p3), .val (.int p4), .val (.long q5), .second, .val (.int len), .val (.int (1 : Int32)), .val (.ref b250), .unset, .unset, .unset, .unset, .unset, .unset, .unset] [(.int (((((q5.toUInt64 >>> ((16 : Int32) &&& 0x3f).toInt64.toUInt64).toInt64) &&& (127 : Int64)).toInt32).toInt8.toInt32)), (.int (3 : Int32)), (.ref b250)])) _
          refine st258 _ ?_
          show Steps p.tables e below (T258.setTop (mkF m 98 #[.val (.int p1), .val (.int p2), .val (.int p3), .val (.int p4), .val (.long q5), .second, .val (.int len), .val (.int (1 : Int32)), .val (.ref b250), .unset, .unset, .unset, .unset, .unset, .unset, .unset] [])) _
          refine XS.aload X258.here hx rfl (hb hby at_98) rfl rfl ?_
          show Steps p.tables e below (T258.setTop (mkF m 100 #[.val (.int p1), .val (.int p2), .val (.int p3), .val (.int p4), .val (.long q5), .second, .val (.int len), .val (.int (1 : Int32)), .val (.ref b250), .unset, .unset, .unset, .unset, .unset, .unset, .unset] [(.ref b250)])) _
          refine XS.iconst X258.here hx rfl (hb hby at_100) ?_
          show Steps p.tables e below (T258.setTop (mkF m 101 #[.val (.int p1), .val (.int p2), .val (.int p3), .val (.int p4), .val (.long q5), .second, .val (.int len), .val (.int (1 : Int32)), .val (.ref b250), .unset, .unset, .unset, .unset, .unset, .unset, .unset] [(.int (4 : Int32)), (.ref b250)])) _
          refine XS.lload X258.here hx rfl (hb hby at_101) rfl ?_
          show Steps p.tables e below (T258.setTop (mkF m 103 #[.val (.int p1), .val (.int p2), .val (.int p3), .val (.int p4), .val (.long q5), .second, .val (.int len), .val (.int (1 : Int32)), .val (.ref b250), .unset, .unset, .unset, .unset, .unset, .unset, .unset] [(.long q5), (.int (4 : Int32)), (.ref b250)])) _
          refine XS.bipush X258.here hx rfl (hb hby at_103) ?_
          show Steps p.tables e below (T258.setTop (mkF m 105 #[.val (.int p1), .val (.int p2), .val (.int p3), .val (.int p4), .val (.long q5), .second, .val (.int len), .val (.int (1 : Int32)), .val (.ref b250), .unset, .unset, .unset, .unset, .unset, .unset, .unset] [(.int (24 : Int32)), (.long q5), (.int (4 : Int32)), (.ref b250)])) _
          refine XS.lushr X258.here hx rfl (hb hby at_105) rfl ?_
          show Steps p.tables e below (T258.setTop (mkF m 106 #[.val (.int p1), .val (.int p2), .val (.int p3), .val (.int p4), .val (.long q5), .second, .val (.int len), .val (.int (1 : Int32)), .val (.ref b250), .unset, .unset, .unset, .unset, .unset, .unset, .unset] [(.long ((q5.toUInt64 >>> ((24 : Int32) &&& 0x3f).toInt64.toUInt64).toInt64)), (.int (4 : Int32)), (.ref b250)])) _
          refine X258.ldc2Long hx hown (mvT hZ (hw _ (List.mem_of_getElem? (i := 2) rfl))) (g := (mkF m 106 #[.val (.int p1), .val (.int p2), .val (.int p3), .val (.int p4), .val (.long q5), .second, .val (.int len), .val (.int (1 : Int32)), .val (.ref b250), .unset, .unset, .unset, .unset, .unset, .unset, .unset] [(.long ((q5.toUInt64 >>> ((24 : Int32) &&& 0x3f).toInt64.toUInt64).toInt64)), (.int (4 : Int32)), (.ref b250)])) rfl (hb hby at_106) _ ?_
          show Steps p.tables e below (T258.setTop (mkF m 109 #[.val (.int p1), .val (.int p2), .val (.int p3), .val (.int p4), .val (.long q5), .second, .val (.int len), .val (.int (1 : Int32)), .val (.ref b250), .unset, .unset, .unset, .unset, .unset, .unset, .unset] [(.long (127 : Int64)), (.long ((q5.toUInt64 >>> ((24 : Int32) &&& 0x3f).toInt64.toUInt64).toInt64)), (.int (4 : Int32)), (.ref b250)])) _
          refine XS.land X258.here hx rfl (hb hby at_109) rfl ?_
          show Steps p.tables e below (T258.setTop (mkF m 110 #[.val (.int p1), .val (.int p2), .val (.int p3), .val (.int p4), .val (.long q5), .second, .val (.int len), .val (.int (1 : Int32)), .val (.ref b250), .unset, .unset, .unset, .unset, .unset, .unset, .unset] [(.long (((q5.toUInt64 >>> ((24 : Int32) &&& 0x3f).toInt64.toUInt64).toInt64) &&& (127 : Int64))), (.int (4 : Int32)), (.ref b250)])) _
          refine XS.l2i X258.here hx rfl (hb hby at_110) rfl ?_
          show Steps p.tables e below (T258.setTop (mkF m 111 #[.val (.int p1), .val (.int p2), .val (.int p3), .val (.int p4), .val (.long q5), .second, .val (.int len), .val (.int (1 : Int32)), .val (.ref b250), .unset, .unset, .unset, .unset, .unset, .unset, .unset] [(.int ((((q5.toUInt64 >>> ((24 : Int32) &&& 0x3f).toInt64.toUInt64).toInt64) &&& (127 : Int64)).toInt32)), (.int (4 : Int32)), (.ref b250)])) _
          refine XS.i2b X258.here hx rfl (hb hby at_111) rfl ?_
          show Steps p.tables e below (T258.setTop (mkF m 112 #[.val (.int p1), .val (.int p2), .val (.int p3), .val (.int p4), .val (.long q5), .second, .val (.int len), .val (.int (1 : Int32)), .val (.ref b250), .unset, .unset, .unset, .unset, .unset, .unset, .unset] [(.int (((((q5.toUInt64 >>> ((24 : Int32) &&& 0x3f).toInt64.toUInt64).toInt64) &&& (127 : Int64)).toInt32).toInt8.toInt32)), (.int (4 : Int32)), (.ref b250)])) _
          refine st260 _ ?_
          show Steps p.tables e below (T260.setTop (mkF m 113 #[.val (.int p1), .val (.int p2), .val (.int p3), .val (.int p4), .val (.long q5), .second, .val (.int len), .val (.int (1 : Int32)), .val (.ref b250), .unset, .unset, .unset, .unset, .unset, .unset, .unset] [])) _
          refine XS.aload X260.here hx rfl (hb hby at_113) rfl rfl ?_
          show Steps p.tables e below (T260.setTop (mkF m 115 #[.val (.int p1), .val (.int p2), .val (.int p3), .val (.int p4), .val (.long q5), .second, .val (.int len), .val (.int (1 : Int32)), .val (.ref b250), .unset, .unset, .unset, .unset, .unset, .unset, .unset] [(.ref b250)])) _
          refine XS.iconst X260.here hx rfl (hb hby at_115) ?_
          show Steps p.tables e below (T260.setTop (mkF m 116 #[.val (.int p1), .val (.int p2), .val (.int p3), .val (.int p4), .val (.long q5), .second, .val (.int len), .val (.int (1 : Int32)), .val (.ref b250), .unset, .unset, .unset, .unset, .unset, .unset, .unset] [(.int (5 : Int32)), (.ref b250)])) _
          refine XS.lload X260.here hx rfl (hb hby at_116) rfl ?_
          show Steps p.tables e below (T260.setTop (mkF m 118 #[.val (.int p1), .val (.int p2), .val (.int p3), .val (.int p4), .val (.long q5), .second, .val (.int len), .val (.int (1 : Int32)), .val (.ref b250), .unset, .unset, .unset, .unset, .unset, .unset, .unset] [(.long q5), (.int (5 : Int32)), (.ref b250)])) _
          refine XS.bipush X260.here hx rfl (hb hby at_118) ?_
          show Steps p.tables e below (T260.setTop (mkF m 120 #[.val (.int p1), .val (.int p2), .val (.int p3), .val (.int p4), .val (.long q5), .second, .val (.int len), .val (.int (1 : Int32)), .val (.ref b250), .unset, .unset, .unset, .unset, .unset, .unset, .unset] [(.int (32 : Int32)), (.long q5), (.int (5 : Int32)), (.ref b250)])) _
          refine XS.lushr X260.here hx rfl (hb hby at_120) rfl ?_
          show Steps p.tables e below (T260.setTop (mkF m 121 #[.val (.int p1), .val (.int p2), .val (.int p3), .val (.int p4), .val (.long q5), .second, .val (.int len), .val (.int (1 : Int32)), .val (.ref b250), .unset, .unset, .unset, .unset, .unset, .unset, .unset] [(.long ((q5.toUInt64 >>> ((32 : Int32) &&& 0x3f).toInt64.toUInt64).toInt64)), (.int (5 : Int32)), (.ref b250)])) _
          refine X260.ldc2Long hx hown (mvT hZ (hw _ (List.mem_of_getElem? (i := 2) rfl))) (g := (mkF m 121 #[.val (.int p1), .val (.int p2), .val (.int p3), .val (.int p4), .val (.long q5), .second, .val (.int len), .val (.int (1 : Int32)), .val (.ref b250), .unset, .unset, .unset, .unset, .unset, .unset, .unset] [(.long ((q5.toUInt64 >>> ((32 : Int32) &&& 0x3f).toInt64.toUInt64).toInt64)), (.int (5 : Int32)), (.ref b250)])) rfl (hb hby at_121) _ ?_
          show Steps p.tables e below (T260.setTop (mkF m 124 #[.val (.int p1), .val (.int p2), .val (.int p3), .val (.int p4), .val (.long q5), .second, .val (.int len), .val (.int (1 : Int32)), .val (.ref b250), .unset, .unset, .unset, .unset, .unset, .unset, .unset] [(.long (127 : Int64)), (.long ((q5.toUInt64 >>> ((32 : Int32) &&& 0x3f).toInt64.toUInt64).toInt64)), (.int (5 : Int32)), (.ref b250)])) _
          refine XS.land X260.here hx rfl (hb hby at_124) rfl ?_
          show Steps p.tables e below (T260.setTop (mkF m 125 #[.val (.int p1), .val (.int p2), .val (.int p3), .val (.int p4), .val (.long q5), .second, .val (.int len), .val (.int (1 : Int32)), .val (.ref b250), .unset, .unset, .unset, .unset, .unset, .unset, .unset] [(.long (((q5.toUInt64 >>> ((32 : Int32) &&& 0x3f).toInt64.toUInt64).toInt64) &&& (127 : Int64))), (.int (5 : Int32)), (.ref b250)])) _
          refine XS.l2i X260.here hx rfl (hb hby at_125) rfl ?_
          show Steps p.tables e below (T260.setTop (mkF m 126 #[.val (.int p1), .val (.int p2), .val (.int p3), .val (.int p4), .val (.long q5), .second, .val (.int len), .val (.int (1 : Int32)), .val (.ref b250), .unset, .unset, .unset, .unset, .unset, .unset, .unset] [(.int ((((q5.toUInt64 >>> ((32 : Int32) &&& 0x3f).toInt64.toUInt64).toInt64) &&& (127 : Int64)).toInt32)), (.int (5 : Int32)), (.ref b250)])) _
          refine XS.i2b X260.here hx rfl (hb hby at_126) rfl ?_
          show Steps p.tables e below (T260.setTop (mkF m 127 #[.val (.int p1), .val (.int p2), .val (.int p3), .val (.int p4), .val (.long q5), .second, .val (.int len), .val (.int (1 : Int32)), .val (.ref b250), .unset, .unset, .unset, .unset, .unset, .unset, .unset] [(.int (((((q5.toUInt64 >>> ((32 : Int32) &&& 0x3f).toInt64.toUInt64).toInt64) &&& (127 : Int64)).toInt32).toInt8.toInt32)), (.int (5 : Int32)), (.ref b250)])) _
          refine st262 _ ?_
          show Steps p.tables e below (T262.setTop (mkF m 128 #[.val (.int p1), .val (.int p2), .val (.int p3), .val (.int p4), .val (.long q5), .second, .val (.int len), .val (.int (1 : Int32)), .val (.ref b250), .unset, .unset, .unset, .unset, .unset, .unset, .unset] [])) _
          refine st263 _ ?_
          show Steps p.tables e below (T263.setTop (mkF m 131 #[.val (.int p1), .val (.int p2), .val (.int p3), .val (.int p4), .val (.long q5), .second, .val (.int len), .val (.int (1 : Int32)), .val (.ref b250), .unset, .unset, .unset, .unset, .unset, .unset, .unset] [(.ref b263)])) _
          refine XS.dup X263.here hx rfl (hb hby at_131) rfl rfl ?_
          show Steps p.tables e below (T263.setTop (mkF m 132 #[.val (.int p1), .val (.int p2), .val (.int p3), .val (.int p4), .val (.long q5), .second, .val (.int len), .val (.int (1 : Int32)), .val (.ref b250), .unset, .unset, .unset, .unset, .unset, .unset, .unset] [(.ref b263), (.ref b263)])) _
          refine XS.aload X263.here hx rfl (hb hby at_132) rfl rfl ?_
          show Steps p.tables e below (T263.setTop (mkF m 134 #[.val (.int p1), .val (.int p2), .val (.int p3), .val (.int p4), .val (.long q5), .second, .val (.int len), .val (.int (1 : Int32)), .val (.ref b250), .unset, .unset, .unset, .unset, .unset, .unset, .unset] [(.ref b250), (.ref b263), (.ref b263)])) _
          refine XS.iload X263.here hx rfl (hb hby at_134) rfl ?_
          show Steps p.tables e below (T263.setTop (mkF m 136 #[.val (.int p1), .val (.int p2), .val (.int p3), .val (.int p4), .val (.long q5), .second, .val (.int len), .val (.int (1 : Int32)), .val (.ref b250), .unset, .unset, .unset, .unset, .unset, .unset, .unset] [(.int len), (.ref b250), (.ref b263), (.ref b263)])) _
          refine st266.trans ?_
          show Steps p.tables e below (T266.setTop (mkF m 139 #[.val (.int p1), .val (.int p2), .val (.int p3), .val (.int p4), .val (.long q5), .second, .val (.int len), .val (.int (1 : Int32)), .val (.ref b250), .unset, .unset, .unset, .unset, .unset, .unset, .unset] [(.ref b263)])) _
          refine XS.astore X266.here hx rfl (hb hby at_139) rfl rfl (l' := #[.val (.int p1), .val (.int p2), .val (.int p3), .val (.int p4), .val (.long q5), .second, .val (.int len), .val (.int (1 : Int32)), .val (.ref b250), .val (.ref b263), .unset, .unset, .unset, .unset, .unset, .unset]) rfl ?_
          show Steps p.tables e below (T266.setTop (mkF m 141 #[.val (.int p1), .val (.int p2), .val (.int p3), .val (.int p4), .val (.long q5), .second, .val (.int len), .val (.int (1 : Int32)), .val (.ref b250), .val (.ref b263), .unset, .unset, .unset, .unset, .unset, .unset] [])) _
          refine XS.aload X266.here hx rfl (hb hby at_141) rfl rfl ?_
          show Steps p.tables e below (T266.setTop (mkF m 143 #[.val (.int p1), .val (.int p2), .val (.int p3), .val (.int p4), .val (.long q5), .second, .val (.int len), .val (.int (1 : Int32)), .val (.ref b250), .val (.ref b263), .unset, .unset, .unset, .unset, .unset, .unset] [(.ref b263)])) _
          refine st269.trans ?_
          show Steps p.tables e below (T269.setTop (mkF m 146 #[.val (.int p1), .val (.int p2), .val (.int p3), .val (.int p4), .val (.long q5), .second, .val (.int len), .val (.int (1 : Int32)), .val (.ref b250), .val (.ref b263), .unset, .unset, .unset, .unset, .unset, .unset] [(.int (own_v3 (0 : Int32) len))])) _
          refine XS.istore X269.here hx rfl (hb hby at_146) rfl (l' := #[.val (.int p1), .val (.int p2), .val (.int p3), .val (.int p4), .val (.long q5), .second, .val (.int len), .val (.int (1 : Int32)), .val (.ref b250), .val (.ref b263), .val (.int (own_v3 (0 : Int32) len)), .unset, .unset, .unset, .unset, .unset]) rfl ?_
          show Steps p.tables e below (T269.setTop (mkF m 148 #[.val (.int p1), .val (.int p2), .val (.int p3), .val (.int p4), .val (.long q5), .second, .val (.int len), .val (.int (1 : Int32)), .val (.ref b250), .val (.ref b263), .val (.int (own_v3 (0 : Int32) len)), .unset, .unset, .unset, .unset, .unset] [])) _
          refine XS.iload X269.here hx rfl (hb hby at_148) rfl ?_
          show Steps p.tables e below (T269.setTop (mkF m 150 #[.val (.int p1), .val (.int p2), .val (.int p3), .val (.int p4), .val (.long q5), .second, .val (.int len), .val (.int (1 : Int32)), .val (.ref b250), .val (.ref b263), .val (.int (own_v3 (0 : Int32) len)), .unset, .unset, .unset, .unset, .unset] [(.int (own_v3 (0 : Int32) len))])) _
          refine XS.iload X269.here hx rfl (hb hby at_150) rfl ?_
          exact k9)
      have b271 : (0 : Int) < len.toInt := by omega
      have pre272 : ∀ t, Steps p.tables e below (T269.setTop (mkF m 160 #[.val (.int p1), .val (.int p2), .val (.int p3), .val (.int p4), .val (.long q5), .second, .val (.int len), .val (.int (1 : Int32)), .val (.ref b250), .val (.ref b263), .val (.int (own_v3 (0 : Int32) len)), .unset, .unset, .unset, .unset, .unset] [(.int (1 : Int32)), (.int (own_v3 (0 : Int32) len))])) t → Steps p.tables e below (s₁.setTop (entryFrame m #[(.int p1), (.int p2), (.int p3), (.int p4), (.long q5)] maxLocals)) t := fun t9 k9 => pre270 t9 (by
          show Steps p.tables e below (T269.setTop (mkF m 152 #[.val (.int p1), .val (.int p2), .val (.int p3), .val (.int p4), .val (.long q5), .second, .val (.int len), .val (.int (1 : Int32)), .val (.ref b250), .val (.ref b263), .val (.int (own_v3 (0 : Int32) len)), .unset, .unset, .unset, .unset, .unset] [(.int len), (.int (own_v3 (0 : Int32) len))])) _
          refine XS.ifNo X269.here hx rfl (hb hby at_152) rfl ((if0 _ _).trans (own_le_f (a := len.toInt) (b := (0 : Int)) rfl (by decide) b271)) ?_
          show Steps p.tables e below (T269.setTop (mkF m 155 #[.val (.int p1), .val (.int p2), .val (.int p3), .val (.int p4), .val (.long q5), .second, .val (.int len), .val (.int (1 : Int32)), .val (.ref b250), .val (.ref b263), .val (.int (own_v3 (0 : Int32) len)), .unset, .unset, .unset, .unset, .unset] [(.int (own_v3 (0 : Int32) len))])) _
          refine XS.iconst X269.here hx rfl (hb hby at_155) ?_
          show Steps p.tables e below (T269.setTop (mkF m 156 #[.val (.int p1), .val (.int p2), .val (.int p3), .val (.int p4), .val (.long q5), .second, .val (.int len), .val (.int (1 : Int32)), .val (.ref b250), .val (.ref b263), .val (.int (own_v3 (0 : Int32) len)), .unset, .unset, .unset, .unset, .unset] [(.int (1 : Int32)), (.int (own_v3 (0 : Int32) len))])) _
          refine XS.goto X269.here hx rfl (pc0 := 156) (pc' := 160) rfl (hb hby at_156) (by decide) (by decide) ?_
          exact k9)
      have b273 : (own_v3 (0 : Int32) len).toInt = (1 : Int) := by (have h01 := own_v3_01 (0 : Int32) len; have h00 : (0 : Int32).toInt = 0 := (by decide); omega)
      have pre274 : ∀ t, Steps p.tables e below (T269.setTop (mkF m 188 #[.val (.int p1), .val (.int p2), .val (.int p3), .val (.int p4), .val (.long q5), .second, .val (.int len), .val (.int (1 : Int32)), .val (.ref b250), .val (.ref b263), .val (.int (own_v3 (0 : Int32) len)), .val (.int (len - (1 : Int32))), .unset, .unset, .unset, .unset] [(.int ((p2 &&& (2147483647 : Int32)) % (7 : Int32)))])) t → Steps p.tables e below (s₁.setTop (entryFrame m #[(.int p1), (.int p2), (.int p3), (.int p4), (.long q5)] maxLocals)) t := fun t9 k9 => pre272 t9 (by
          show Steps p.tables e below (T269.setTop (mkF m 160 #[.val (.int p1), .val (.int p2), .val (.int p3), .val (.int p4), .val (.long q5), .second, .val (.int len), .val (.int (1 : Int32)), .val (.ref b250), .val (.ref b263), .val (.int (own_v3 (0 : Int32) len)), .unset, .unset, .unset, .unset, .unset] [(.int (1 : Int32)), (.int (own_v3 (0 : Int32) len))])) _
          refine XS.icmpYes X269.here hx rfl (pc0 := 160) (pc' := 165) rfl (hb hby at_160) rfl (own_eq_t (a := (own_v3 (0 : Int32) len).toInt) (b := (1 : Int)) rfl (by decide) b273) (by decide) (by decide) ?_
          show Steps p.tables e below (T269.setTop (mkF m 165 #[.val (.int p1), .val (.int p2), .val (.int p3), .val (.int p4), .val (.long q5), .second, .val (.int len), .val (.int (1 : Int32)), .val (.ref b250), .val (.ref b263), .val (.int (own_v3 (0 : Int32) len)), .unset, .unset, .unset, .unset, .unset] [])) _
          refine XS.iload X269.here hx rfl (hb hby at_165) rfl ?_
          show Steps p.tables e below (T269.setTop (mkF m 167 #[.val (.int p1), .val (.int p2), .val (.int p3), .val (.int p4), .val (.long q5), .second, .val (.int len), .val (.int (1 : Int32)), .val (.ref b250), .val (.ref b263), .val (.int (own_v3 (0 : Int32) len)), .unset, .unset, .unset, .unset, .unset] [(.int (1 : Int32))])) _
          refine XS.ifNo X269.here hx rfl (hb hby at_167) rfl ((if0 _ _).trans (own_eq_f (a := (1 : Int)) (b := (0 : Int)) (by decide) (by decide) (by decide))) ?_
          show Steps p.tables e below (T269.setTop (mkF m 170 #[.val (.int p1), .val (.int p2), .val (.int p3), .val (.int p4), .val (.long q5), .second, .val (.int len), .val (.int (1 : Int32)), .val (.ref b250), .val (.ref b263), .val (.int (own_v3 (0 : Int32) len)), .unset, .unset, .unset, .unset, .unset] [])) _
          refine XS.iload X269.here hx rfl (hb hby at_170) rfl ?_
          show Steps p.tables e below (T269.setTop (mkF m 172 #[.val (.int p1), .val (.int p2), .val (.int p3), .val (.int p4), .val (.long q5), .second, .val (.int len), .val (.int (1 : Int32)), .val (.ref b250), .val (.ref b263), .val (.int (own_v3 (0 : Int32) len)), .unset, .unset, .unset, .unset, .unset] [(.int len)])) _
          refine XS.iconst X269.here hx rfl (hb hby at_172) ?_
          show Steps p.tables e below (T269.setTop (mkF m 173 #[.val (.int p1), .val (.int p2), .val (.int p3), .val (.int p4), .val (.long q5), .second, .val (.int len), .val (.int (1 : Int32)), .val (.ref b250), .val (.ref b263), .val (.int (own_v3 (0 : Int32) len)), .unset, .unset, .unset, .unset, .unset] [(.int (1 : Int32)), (.int len)])) _
          refine XS.isub X269.here hx rfl (hb hby at_173) rfl ?_
          show Steps p.tables e below (T269.setTop (mkF m 174 #[.val (.int p1), .val (.int p2), .val (.int p3), .val (.int p4), .val (.long q5), .second, .val (.int len), .val (.int (1 : Int32)), .val (.ref b250), .val (.ref b263), .val (.int (own_v3 (0 : Int32) len)), .unset, .unset, .unset, .unset, .unset] [(.int (len - (1 : Int32)))])) _
          refine XS.goto X269.here hx rfl (pc0 := 174) (pc' := 179) rfl (hb hby at_174) (by decide) (by decide) ?_
          show Steps p.tables e below (T269.setTop (mkF m 179 #[.val (.int p1), .val (.int p2), .val (.int p3), .val (.int p4), .val (.long q5), .second, .val (.int len), .val (.int (1 : Int32)), .val (.ref b250), .val (.ref b263), .val (.int (own_v3 (0 : Int32) len)), .unset, .unset, .unset, .unset, .unset] [(.int (len - (1 : Int32)))])) _
          refine XS.istore X269.here hx rfl (hb hby at_179) rfl (l' := #[.val (.int p1), .val (.int p2), .val (.int p3), .val (.int p4), .val (.long q5), .second, .val (.int len), .val (.int (1 : Int32)), .val (.ref b250), .val (.ref b263), .val (.int (own_v3 (0 : Int32) len)), .val (.int (len - (1 : Int32))), .unset, .unset, .unset, .unset]) rfl ?_
          show Steps p.tables e below (T269.setTop (mkF m 181 #[.val (.int p1), .val (.int p2), .val (.int p3), .val (.int p4), .val (.long q5), .second, .val (.int len), .val (.int (1 : Int32)), .val (.ref b250), .val (.ref b263), .val (.int (own_v3 (0 : Int32) len)), .val (.int (len - (1 : Int32))), .unset, .unset, .unset, .unset] [])) _
          refine XS.iloadN X269.here hx rfl (hb hby at_181) rfl ?_
          show Steps p.tables e below (T269.setTop (mkF m 182 #[.val (.int p1), .val (.int p2), .val (.int p3), .val (.int p4), .val (.long q5), .second, .val (.int len), .val (.int (1 : Int32)), .val (.ref b250), .val (.ref b263), .val (.int (own_v3 (0 : Int32) len)), .val (.int (len - (1 : Int32))), .unset, .unset, .unset, .unset] [(.int p2)])) _
          refine X269.ldcInt hx hown (mvT hZ (hw _ (List.mem_of_getElem? (i := 0) rfl))) (g := (mkF m 182 #[.val (.int p1), .val (.int p2), .val (.int p3), .val (.int p4), .val (.long q5), .second, .val (.int len), .val (.int (1 : Int32)), .val (.ref b250), .val (.ref b263), .val (.int (own_v3 (0 : Int32) len)), .val (.int (len - (1 : Int32))), .unset, .unset, .unset, .unset] [(.int p2)])) rfl (hb hby at_182) _ ?_
          show Steps p.tables e below (T269.setTop (mkF m 184 #[.val (.int p1), .val (.int p2), .val (.int p3), .val (.int p4), .val (.long q5), .second, .val (.int len), .val (.int (1 : Int32)), .val (.ref b250), .val (.ref b263), .val (.int (own_v3 (0 : Int32) len)), .val (.int (len - (1 : Int32))), .unset, .unset, .unset, .unset] [(.int (2147483647 : Int32)), (.int p2)])) _
          refine XS.iand X269.here hx rfl (hb hby at_184) rfl ?_
          show Steps p.tables e below (T269.setTop (mkF m 185 #[.val (.int p1), .val (.int p2), .val (.int p3), .val (.int p4), .val (.long q5), .second, .val (.int len), .val (.int (1 : Int32)), .val (.ref b250), .val (.ref b263), .val (.int (own_v3 (0 : Int32) len)), .val (.int (len - (1 : Int32))), .unset, .unset, .unset, .unset] [(.int (p2 &&& (2147483647 : Int32)))])) _
          refine XS.bipush X269.here hx rfl (hb hby at_185) ?_
          show Steps p.tables e below (T269.setTop (mkF m 187 #[.val (.int p1), .val (.int p2), .val (.int p3), .val (.int p4), .val (.long q5), .second, .val (.int len), .val (.int (1 : Int32)), .val (.ref b250), .val (.ref b263), .val (.int (own_v3 (0 : Int32) len)), .val (.int (len - (1 : Int32))), .unset, .unset, .unset, .unset] [(.int (7 : Int32)), (.int (p2 &&& (2147483647 : Int32)))])) _
          refine iremM X269 hx rfl (hb hby at_187) rfl (by decide) ?_
          exact k9)
      obtain ⟨rd, h_rd⟩ : ∃ z, ((p2 &&& (2147483647 : Int32)) % (7 : Int32)) = z := ⟨_, rfl⟩
      rw [h_rd] at pre274 hr3
      clear hr2
      obtain ⟨_, _, ⟨T275, L275, k275, n275⟩, -, X275, ⟨Lc275, hQ275, l275, y275, z275⟩, st275⟩ := Jvm.LawKit.callS X269 hx (y := (⟨"java/lang/Math", "min", "(II)I"⟩ : MethodName)) hown (mvT hZ (hw _ (List.mem_of_getElem? (i := 23) rfl))) (mvT hZ (hw _ (List.mem_of_getElem? (i := 24) rfl))) (mvT hZ (hw _ (List.mem_of_getElem? (i := 25) rfl))) (mvT hZ (hw _ (List.mem_of_getElem? (i := 26) rfl))) (by decide) (backOf (W := 0) (rm4 l Z a0 hw [] rd (len - (1 : Int32)) T266.heap n0 Z266 ) hZ (hw _ (List.mem_of_getElem? (i := 26) rfl)) (hw _ (List.mem_of_getElem? (i := 25) rfl)) (by decide) (by decide)) (g := (mkF m 190 #[.val (.int p1), .val (.int p2), .val (.int p3), .val (.int p4), .val (.long q5), .second, .val (.int len), .val (.int (1 : Int32)), .val (.ref b250), .val (.ref b263), .val (.int (own_v3 (0 : Int32) len)), .val (.int (len - (1 : Int32))), .unset, .unset, .unset, .unset] [(.int (len - (1 : Int32))), (.int rd)])) rfl (by rw [hml]; rfl) (argsL := [(.int rd), (.int (len - (1 : Int32)))]) (rest := []) (lenOf pd_0_2 rfl) rfl (by show 2 * 0 + _ ≤ _; exact Nat.le_of_eq rfl) (hb hby at_190) (fun _ _ => ⟨rfl, e269, (by decide : 2 + 0 ≤ _), (by decide : 9 + 0 ≤ _)⟩)
      dsimp only [Pt.U, Pt.locs, Pt.cells, Pt.slots] at X275 l275 y275 z275 st275 hQ275
      subst l275 y275 z275
      obtain ⟨hv275, N275q, e275⟩ := hQ275
      have hmin := own_v4_s rd (len - (1 : Int32))
      obtain ⟨k, h_k⟩ : ∃ z, (own_v4 rd (len - (1 : Int32))) = z := ⟨_, rfl⟩
      rw [h_k] at hmin hv275
      have hkl := c_i2l k
      have hk1 := own_add1 k (by omega)
      subst hv275
      have N275 := Fr.app N269 N275q
      obtain ⟨cq276, kq276, q276a, q276b, q276c⟩ := isOf hZ e275 E266x
      obtain ⟨_, _, ⟨T276, L276, k276, n276⟩, -, X276, ⟨Lc276, hQ276, l276, y276, z276⟩, st276⟩ := X275.virtualBack hx (y := (⟨"com/example/pesquisa/pesquisa/index/ByteSource", "skipNumbers", "(J)V"⟩ : MethodName)) (z := (⟨"com/example/pesquisa/pesquisa/index/ByteSource", "skipNumbers", "(J)V"⟩ : MethodName)) hown (mvT hZ (hw _ (List.mem_of_getElem? (i := 27) rfl))) (mvT hZ (hw _ (List.mem_of_getElem? (i := 28) rfl))) (notFace_of_selects (args := #[]) (mvT hZ (hw _ (List.mem_of_getElem? (i := 30) rfl)))) (mvT hZ (hw _ (List.mem_of_getElem? (i := 30) rfl))) (mvT hZ (hw _ (List.mem_of_getElem? (i := 29) rfl))) (by decide) (backOf (W := 0) (rm5 l Z a0 hw [] b263 (k.toInt64) b250 cl len 1 T266.heap n0 Z266 E266x F266_bytes F266_end F266_position g_b263 Ak267 ne264 hall hbits (Or.inr ⟨rfl, hbit0⟩) (by omega) (by omega) (by omega)) hZ (hw _ (List.mem_of_getElem? (i := 31) rfl)) (hw _ (List.mem_of_getElem? (i := 5) rfl)) (by decide) (by decide)) q276a q276c (g := (mkF m 200 #[.val (.int p1), .val (.int p2), .val (.int p3), .val (.int p4), .val (.long q5), .second, .val (.int len), .val (.int (1 : Int32)), .val (.ref b250), .val (.ref b263), .val (.int (own_v3 (0 : Int32) len)), .val (.int (len - (1 : Int32))), .val (.int k), .unset, .unset, .unset] [(.long (k.toInt64)), (.ref b263)])) rfl (by rw [hml]; rfl) (Steps.refl _) (argsL := [(.long (k.toInt64))]) (rest := []) (lenOf pd_0_3 rfl) rfl (by show 2 * 0 + _ ≤ _; exact Nat.le_of_eq rfl) (hb hby at_200) (fun _ _ => ⟨rfl, e275, (by decide : 2 + 0 ≤ _), (by decide : 9 + 0 ≤ _)⟩)
      dsimp only [Pt.U, Pt.locs, Pt.cells, Pt.slots] at X276 l276 y276 z276 st276 hQ276
      subst l276 y276 z276
      obtain ⟨ps276, hv276, N276q, K276, E276x, Fb276, Fe276, Fp276, hps276⟩ := hQ276
      subst hv276
      have N276 := Fr.app N275 N276q
      have Ak277 := own_arr_keep Ak267 K276 (ninS ne264 nin0)
      have Ek278 := E266x.keep K276
      have KK276 := KK266.trans K276 (allS (Or.inr sz_b263) all0)
      have Z276 : n0 ≤ T276.heap.size := Nat.le_trans Z266 K276.1
      rw [c_i2l] at hps276
      have pre279 : ∀ t, Steps p.tables e below (T276.setTop (mkF m 205 #[.val (.int p1), .val (.int p2), .val (.int p3), .val (.int p4), .val (.long q5), .second, .val (.int len), .val (.int (1 : Int32)), .val (.ref b250), .val (.ref b263), .val (.int (own_v3 (0 : Int32) len)), .val (.int (len - (1 : Int32))), .val (.int k), .unset, .unset, .unset] [(.int k)])) t → Steps p.tables e below (s₁.setTop (entryFrame m #[(.int p1), (.int p2), (.int p3), (.int p4), (.long q5)] maxLocals)) t := fun t9 k9 => pre274 t9 (by
          show Steps p.tables e below (T269.setTop (mkF m 188 #[.val (.int p1), .val (.int p2), .val (.int p3), .val (.int p4), .val (.long q5), .second, .val (.int len), .val (.int (1 : Int32)), .val (.ref b250), .val (.ref b263), .val (.int (own_v3 (0 : Int32) len)), .val (.int (len - (1 : Int32))), .unset, .unset, .unset, .unset] [(.int rd)])) _
          refine XS.iload X269.here hx rfl (hb hby at_188) rfl ?_
          show Steps p.tables e below (T269.setTop (mkF m 190 #[.val (.int p1), .val (.int p2), .val (.int p3), .val (.int p4), .val (.long q5), .second, .val (.int len), .val (.int (1 : Int32)), .val (.ref b250), .val (.ref b263), .val (.int (own_v3 (0 : Int32) len)), .val (.int (len - (1 : Int32))), .unset, .unset, .unset, .unset] [(.int (len - (1 : Int32))), (.int rd)])) _
          refine st275 _ ?_
          show Steps p.tables e below (T275.setTop (mkF m 193 #[.val (.int p1), .val (.int p2), .val (.int p3), .val (.int p4), .val (.long q5), .second, .val (.int len), .val (.int (1 : Int32)), .val (.ref b250), .val (.ref b263), .val (.int (own_v3 (0 : Int32) len)), .val (.int (len - (1 : Int32))), .unset, .unset, .unset, .unset] [(.int k)])) _
          refine XS.istore X275.here hx rfl (hb hby at_193) rfl (l' := #[.val (.int p1), .val (.int p2), .val (.int p3), .val (.int p4), .val (.long q5), .second, .val (.int len), .val (.int (1 : Int32)), .val (.ref b250), .val (.ref b263), .val (.int (own_v3 (0 : Int32) len)), .val (.int (len - (1 : Int32))), .val (.int k), .unset, .unset, .unset]) rfl ?_
          show Steps p.tables e below (T275.setTop (mkF m 195 #[.val (.int p1), .val (.int p2), .val (.int p3), .val (.int p4), .val (.long q5), .second, .val (.int len), .val (.int (1 : Int32)), .val (.ref b250), .val (.ref b263), .val (.int (own_v3 (0 : Int32) len)), .val (.int (len - (1 : Int32))), .val (.int k), .unset, .unset, .unset] [])) _
          refine XS.aload X275.here hx rfl (hb hby at_195) rfl rfl ?_
          show Steps p.tables e below (T275.setTop (mkF m 197 #[.val (.int p1), .val (.int p2), .val (.int p3), .val (.int p4), .val (.long q5), .second, .val (.int len), .val (.int (1 : Int32)), .val (.ref b250), .val (.ref b263), .val (.int (own_v3 (0 : Int32) len)), .val (.int (len - (1 : Int32))), .val (.int k), .unset, .unset, .unset] [(.ref b263)])) _
          refine XS.iload X275.here hx rfl (hb hby at_197) rfl ?_
          show Steps p.tables e below (T275.setTop (mkF m 199 #[.val (.int p1), .val (.int p2), .val (.int p3), .val (.int p4), .val (.long q5), .second, .val (.int len), .val (.int (1 : Int32)), .val (.ref b250), .val (.ref b263), .val (.int (own_v3 (0 : Int32) len)), .val (.int (len - (1 : Int32))), .val (.int k), .unset, .unset, .unset] [(.int k), (.ref b263)])) _
          refine XS.i2l X275.here hx rfl (hb hby at_199) rfl ?_
          show Steps p.tables e below (T275.setTop (mkF m 200 #[.val (.int p1), .val (.int p2), .val (.int p3), .val (.int p4), .val (.long q5), .second, .val (.int len), .val (.int (1 : Int32)), .val (.ref b250), .val (.ref b263), .val (.int (own_v3 (0 : Int32) len)), .val (.int (len - (1 : Int32))), .val (.int k), .unset, .unset, .unset] [(.long (k.toInt64)), (.ref b263)])) _
          refine st276.trans ?_
          show Steps p.tables e below (T276.setTop (mkF m 203 #[.val (.int p1), .val (.int p2), .val (.int p3), .val (.int p4), .val (.long q5), .second, .val (.int len), .val (.int (1 : Int32)), .val (.ref b250), .val (.ref b263), .val (.int (own_v3 (0 : Int32) len)), .val (.int (len - (1 : Int32))), .val (.int k), .unset, .unset, .unset] [])) _
          refine XS.iload X276.here hx rfl (hb hby at_203) rfl ?_
          exact k9)
      by_cases b280 : k.toInt = (0 : Int)
      · have hpk : ps276.toInt = 0 := by rw [hps276, (by assumption : k.toInt = (0 : Int))]; exact own_at_0 _
        obtain ⟨cq281, kq281, q281a, q281b, q281c⟩ := isOf hZ rfl E276x
        obtain ⟨_, _, ⟨T281, L281, k281, n281⟩, -, X281, ⟨Lc281, hQ281, l281, y281, z281⟩, st281⟩ := X276.virtualBack hx (y := (⟨"com/example/pesquisa/pesquisa/index/ByteSource", "hasMore", "()Z"⟩ : MethodName)) (z := (⟨"com/example/pesquisa/pesquisa/index/ByteSource", "hasMore", "()Z"⟩ : MethodName)) hown (mvT hZ (hw _ (List.mem_of_getElem? (i := 16) rfl))) (mvT hZ (hw _ (List.mem_of_getElem? (i := 17) rfl))) (notFace_of_selects (args := #[]) (mvT hZ (hw _ (List.mem_of_getElem? (i := 19) rfl)))) (mvT hZ (hw _ (List.mem_of_getElem? (i := 19) rfl))) (mvT hZ (hw _ (List.mem_of_getElem? (i := 18) rfl))) (by decide) (backOf (W := 0) (rm3 l Z a0 hw [] b263 len ps276 T276.heap n0 Z276 Fe276 Fp276) hZ (hw _ (List.mem_of_getElem? (i := 20) rfl)) (hw _ (List.mem_of_getElem? (i := 5) rfl)) (by decide) (by decide)) q281a q281c (g := (mkF m 230 #[.val (.int p1), .val (.int p2), .val (.int p3), .val (.int p4), .val (.long q5), .second, .val (.int len), .val (.int (1 : Int32)), .val (.ref b250), .val (.ref b263), .val (.int (own_v3 (0 : Int32) len)), .val (.int (len - (1 : Int32))), .val (.int k), .val (.int (0 : Int32)), .unset, .unset] [(.ref b263)])) rfl (by rw [hml]; rfl) (Steps.refl _) (argsL := []) (rest := []) (lenOf pd_0_1 rfl) rfl (by show 2 * 0 + _ ≤ _; exact Nat.le_of_eq rfl) (hb hby at_230) (fun _ _ => ⟨rfl, rfl, (by decide : 2 + 0 ≤ _), (by decide : 9 + 0 ≤ _)⟩)
        dsimp only [Pt.U, Pt.locs, Pt.cells, Pt.slots] at X281 l281 y281 z281 st281 hQ281
        subst l281 y281 z281
        obtain ⟨hv281, N281q, e281⟩ := hQ281
        subst hv281
        have N281 := Fr.app N276 N281q
        obtain ⟨cq282, kq282, q282a, q282b, q282c⟩ := isOf hZ e281 E276x
        obtain ⟨_, _, ⟨T282, L282, k282, n282⟩, -, X282, ⟨Lc282, hQ282, l282, y282, z282⟩, st282⟩ := X281.virtualBack hx (y := (⟨"com/example/pesquisa/pesquisa/index/ByteSource", "hasMore", "()Z"⟩ : MethodName)) (z := (⟨"com/example/pesquisa/pesquisa/index/ByteSource", "hasMore", "()Z"⟩ : MethodName)) hown (mvT hZ (hw _ (List.mem_of_getElem? (i := 16) rfl))) (mvT hZ (hw _ (List.mem_of_getElem? (i := 17) rfl))) (notFace_of_selects (args := #[]) (mvT hZ (hw _ (List.mem_of_getElem? (i := 19) rfl)))) (mvT hZ (hw _ (List.mem_of_getElem? (i := 19) rfl))) (mvT hZ (hw _ (List.mem_of_getElem? (i := 18) rfl))) (by decide) (backOf (W := 0) (rm3 l Z a0 hw [] b263 len ps276 T276.heap n0 Z276 Fe276 Fp276) hZ (hw _ (List.mem_of_getElem? (i := 20) rfl)) (hw _ (List.mem_of_getElem? (i := 5) rfl)) (by decide) (by decide)) q282a q282c (g := (mkF m 237 #[.val (.int p1), .val (.int p2), .val (.int p3), .val (.int p4), .val (.long q5), .second, .val (.int len), .val (.int (1 : Int32)), .val (.ref b250), .val (.ref b263), .val (.int (own_v3 (0 : Int32) len)), .val (.int (len - (1 : Int32))), .val (.int k), .val (.int (0 : Int32)), .val (.int (own_v3 ps276 len)), .unset] [(.ref b263)])) rfl (by rw [hml]; rfl) (Steps.refl _) (argsL := []) (rest := []) (lenOf pd_0_1 rfl) rfl (by show 2 * 0 + _ ≤ _; exact Nat.le_of_eq rfl) (hb hby at_237) (fun _ _ => ⟨rfl, e281, (by decide : 2 + 0 ≤ _), (by decide : 9 + 0 ≤ _)⟩)
        dsimp only [Pt.U, Pt.locs, Pt.cells, Pt.slots] at X282 l282 y282 z282 st282 hQ282
        subst l282 y282 z282
        obtain ⟨hv282, N282q, e282⟩ := hQ282
        subst hv282
        have N282 := Fr.app N281 N282q
        have pre283 : ∀ t, Steps p.tables e below (T282.setTop (mkF m 248 #[.val (.int p1), .val (.int p2), .val (.int p3), .val (.int p4), .val (.long q5), .second, .val (.int len), .val (.int (1 : Int32)), .val (.ref b250), .val (.ref b263), .val (.int (own_v3 (0 : Int32) len)), .val (.int (len - (1 : Int32))), .val (.int k), .val (.int (0 : Int32)), .val (.int (own_v3 ps276 len)), .val (.int (own_v3 ps276 len))] [(.int len), (.int (0 : Int32)), (.int (own_v3 ps276 len))])) t → Steps p.tables e below (s₁.setTop (entryFrame m #[(.int p1), (.int p2), (.int p3), (.int p4), (.long q5)] maxLocals)) t := fun t9 k9 => pre279 t9 (by
            show Steps p.tables e below (T276.setTop (mkF m 205 #[.val (.int p1), .val (.int p2), .val (.int p3), .val (.int p4), .val (.long q5), .second, .val (.int len), .val (.int (1 : Int32)), .val (.ref b250), .val (.ref b263), .val (.int (own_v3 (0 : Int32) len)), .val (.int (len - (1 : Int32))), .val (.int k), .unset, .unset, .unset] [(.int k)])) _
            refine XS.ifNo X276.here hx rfl (hb hby at_205) rfl ((if0 _ _).trans (own_ne_f (a := k.toInt) (b := (0 : Int)) rfl (by decide) b280)) ?_
            show Steps p.tables e below (T276.setTop (mkF m 208 #[.val (.int p1), .val (.int p2), .val (.int p3), .val (.int p4), .val (.long q5), .second, .val (.int len), .val (.int (1 : Int32)), .val (.ref b250), .val (.ref b263), .val (.int (own_v3 (0 : Int32) len)), .val (.int (len - (1 : Int32))), .val (.int k), .unset, .unset, .unset] [])) _
            refine XS.iconst X276.here hx rfl (hb hby at_208) ?_
            show Steps p.tables e below (T276.setTop (mkF m 209 #[.val (.int p1), .val (.int p2), .val (.int p3), .val (.int p4), .val (.long q5), .second, .val (.int len), .val (.int (1 : Int32)), .val (.ref b250), .val (.ref b263), .val (.int (own_v3 (0 : Int32) len)), .val (.int (len - (1 : Int32))), .val (.int k), .unset, .unset, .unset] [(.int (0 : Int32))])) _
            refine XS.goto X276.here hx rfl (pc0 := 209) (pc' := 226) rfl (hb hby at_209) (by decide) (by decide) ?_
            show Steps p.tables e below (T276.setTop (mkF m 226 #[.val (.int p1), .val (.int p2), .val (.int p3), .val (.int p4), .val (.long q5), .second, .val (.int len), .val (.int (1 : Int32)), .val (.ref b250), .val (.ref b263), .val (.int (own_v3 (0 : Int32) len)), .val (.int (len - (1 : Int32))), .val (.int k), .unset, .unset, .unset] [(.int (0 : Int32))])) _
            refine XS.istore X276.here hx rfl (hb hby at_226) rfl (l' := #[.val (.int p1), .val (.int p2), .val (.int p3), .val (.int p4), .val (.long q5), .second, .val (.int len), .val (.int (1 : Int32)), .val (.ref b250), .val (.ref b263), .val (.int (own_v3 (0 : Int32) len)), .val (.int (len - (1 : Int32))), .val (.int k), .val (.int (0 : Int32)), .unset, .unset]) rfl ?_
            show Steps p.tables e below (T276.setTop (mkF m 228 #[.val (.int p1), .val (.int p2), .val (.int p3), .val (.int p4), .val (.long q5), .second, .val (.int len), .val (.int (1 : Int32)), .val (.ref b250), .val (.ref b263), .val (.int (own_v3 (0 : Int32) len)), .val (.int (len - (1 : Int32))), .val (.int k), .val (.int (0 : Int32)), .unset, .unset] [])) _
            refine XS.aload X276.here hx rfl (hb hby at_228) rfl rfl ?_
            show Steps p.tables e below (T276.setTop (mkF m 230 #[.val (.int p1), .val (.int p2), .val (.int p3), .val (.int p4), .val (.long q5), .second, .val (.int len), .val (.int (1 : Int32)), .val (.ref b250), .val (.ref b263), .val (.int (own_v3 (0 : Int32) len)), .val (.int (len - (1 : Int32))), .val (.int k), .val (.int (0 : Int32)), .unset, .unset] [(.ref b263)])) _
            refine st281.trans ?_
            show Steps p.tables e below (T281.setTop (mkF m 233 #[.val (.int p1), .val (.int p2), .val (.int p3), .val (.int p4), .val (.long q5), .second, .val (.int len), .val (.int (1 : Int32)), .val (.ref b250), .val (.ref b263), .val (.int (own_v3 (0 : Int32) len)), .val (.int (len - (1 : Int32))), .val (.int k), .val (.int (0 : Int32)), .unset, .unset] [(.int (own_v3 ps276 len))])) _
            refine XS.istore X281.here hx rfl (hb hby at_233) rfl (l' := #[.val (.int p1), .val (.int p2), .val (.int p3), .val (.int p4), .val (.long q5), .second, .val (.int len), .val (.int (1 : Int32)), .val (.ref b250), .val (.ref b263), .val (.int (own_v3 (0 : Int32) len)), .val (.int (len - (1 : Int32))), .val (.int k), .val (.int (0 : Int32)), .val (.int (own_v3 ps276 len)), .unset]) rfl ?_
            show Steps p.tables e below (T281.setTop (mkF m 235 #[.val (.int p1), .val (.int p2), .val (.int p3), .val (.int p4), .val (.long q5), .second, .val (.int len), .val (.int (1 : Int32)), .val (.ref b250), .val (.ref b263), .val (.int (own_v3 (0 : Int32) len)), .val (.int (len - (1 : Int32))), .val (.int k), .val (.int (0 : Int32)), .val (.int (own_v3 ps276 len)), .unset] [])) _
            refine XS.aload X281.here hx rfl (hb hby at_235) rfl rfl ?_
            show Steps p.tables e below (T281.setTop (mkF m 237 #[.val (.int p1), .val (.int p2), .val (.int p3), .val (.int p4), .val (.long q5), .second, .val (.int len), .val (.int (1 : Int32)), .val (.ref b250), .val (.ref b263), .val (.int (own_v3 (0 : Int32) len)), .val (.int (len - (1 : Int32))), .val (.int k), .val (.int (0 : Int32)), .val (.int (own_v3 ps276 len)), .unset] [(.ref b263)])) _
            refine st282.trans ?_
            show Steps p.tables e below (T282.setTop (mkF m 240 #[.val (.int p1), .val (.int p2), .val (.int p3), .val (.int p4), .val (.long q5), .second, .val (.int len), .val (.int (1 : Int32)), .val (.ref b250), .val (.ref b263), .val (.int (own_v3 (0 : Int32) len)), .val (.int (len - (1 : Int32))), .val (.int k), .val (.int (0 : Int32)), .val (.int (own_v3 ps276 len)), .unset] [(.int (own_v3 ps276 len))])) _
            refine XS.istore X282.here hx rfl (hb hby at_240) rfl (l' := #[.val (.int p1), .val (.int p2), .val (.int p3), .val (.int p4), .val (.long q5), .second, .val (.int len), .val (.int (1 : Int32)), .val (.ref b250), .val (.ref b263), .val (.int (own_v3 (0 : Int32) len)), .val (.int (len - (1 : Int32))), .val (.int k), .val (.int (0 : Int32)), .val (.int (own_v3 ps276 len)), .val (.int (own_v3 ps276 len))]) rfl ?_
            show Steps p.tables e below (T282.setTop (mkF m 242 #[.val (.int p1), .val (.int p2), .val (.int p3), .val (.int p4), .val (.long q5), .second, .val (.int len), .val (.int (1 : Int32)), .val (.ref b250), .val (.ref b263), .val (.int (own_v3 (0 : Int32) len)), .val (.int (len - (1 : Int32))), .val (.int k), .val (.int (0 : Int32)), .val (.int (own_v3 ps276 len)), .val (.int (own_v3 ps276 len))] [])) _
            refine XS.iload X282.here hx rfl (hb hby at_242) rfl ?_
            show Steps p.tables e below (T282.setTop (mkF m 244 #[.val (.int p1), .val (.int p2), .val (.int p3), .val (.int p4), .val (.long q5), .second, .val (.int len), .val (.int (1 : Int32)), .val (.ref b250), .val (.ref b263), .val (.int (own_v3 (0 : Int32) len)), .val (.int (len - (1 : Int32))), .val (.int k), .val (.int (0 : Int32)), .val (.int (own_v3 ps276 len)), .val (.int (own_v3 ps276 len))] [(.int (own_v3 ps276 len))])) _
            refine XS.iload X282.here hx rfl (hb hby at_244) rfl ?_
            show Steps p.tables e below (T282.setTop (mkF m 246 #[.val (.int p1), .val (.int p2), .val (.int p3), .val (.int p4), .val (.long q5), .second, .val (.int len), .val (.int (1 : Int32)), .val (.ref b250), .val (.ref b263), .val (.int (own_v3 (0 : Int32) len)), .val (.int (len - (1 : Int32))), .val (.int k), .val (.int (0 : Int32)), .val (.int (own_v3 ps276 len)), .val (.int (own_v3 ps276 len))] [(.int (0 : Int32)), (.int (own_v3 ps276 len))])) _
            refine XS.iload X282.here hx rfl (hb hby at_246) rfl ?_
            exact k9)
        have b284 : (0 : Int) < len.toInt := by omega
        have pre285 : ∀ t, Steps p.tables e below (T282.setTop (mkF m 256 #[.val (.int p1), .val (.int p2), .val (.int p3), .val (.int p4), .val (.long q5), .second, .val (.int len), .val (.int (1 : Int32)), .val (.ref b250), .val (.ref b263), .val (.int (own_v3 (0 : Int32) len)), .val (.int (len - (1 : Int32))), .val (.int k), .val (.int (0 : Int32)), .val (.int (own_v3 ps276 len)), .val (.int (own_v3 ps276 len))] [(.int (1 : Int32)), (.int (own_v3 ps276 len))])) t → Steps p.tables e below (s₁.setTop (entryFrame m #[(.int p1), (.int p2), (.int p3), (.int p4), (.long q5)] maxLocals)) t := fun t9 k9 => pre283 t9 (by
            show Steps p.tables e below (T282.setTop (mkF m 248 #[.val (.int p1), .val (.int p2), .val (.int p3), .val (.int p4), .val (.long q5), .second, .val (.int len), .val (.int (1 : Int32)), .val (.ref b250), .val (.ref b263), .val (.int (own_v3 (0 : Int32) len)), .val (.int (len - (1 : Int32))), .val (.int k), .val (.int (0 : Int32)), .val (.int (own_v3 ps276 len)), .val (.int (own_v3 ps276 len))] [(.int len), (.int (0 : Int32)), (.int (own_v3 ps276 len))])) _
            refine XS.icmpNo X282.here hx rfl (hb hby at_248) rfl (own_ge_f (a := (0 : Int)) (b := len.toInt) (by decide) rfl b284) ?_
            show Steps p.tables e below (T282.setTop (mkF m 251 #[.val (.int p1), .val (.int p2), .val (.int p3), .val (.int p4), .val (.long q5), .second, .val (.int len), .val (.int (1 : Int32)), .val (.ref b250), .val (.ref b263), .val (.int (own_v3 (0 : Int32) len)), .val (.int (len - (1 : Int32))), .val (.int k), .val (.int (0 : Int32)), .val (.int (own_v3 ps276 len)), .val (.int (own_v3 ps276 len))] [(.int (own_v3 ps276 len))])) _
            refine XS.iconst X282.here hx rfl (hb hby at_251) ?_
            show Steps p.tables e below (T282.setTop (mkF m 252 #[.val (.int p1), .val (.int p2), .val (.int p3), .val (.int p4), .val (.long q5), .second, .val (.int len), .val (.int (1 : Int32)), .val (.ref b250), .val (.ref b263), .val (.int (own_v3 (0 : Int32) len)), .val (.int (len - (1 : Int32))), .val (.int k), .val (.int (0 : Int32)), .val (.int (own_v3 ps276 len)), .val (.int (own_v3 ps276 len))] [(.int (1 : Int32)), (.int (own_v3 ps276 len))])) _
            refine XS.goto X282.here hx rfl (pc0 := 252) (pc' := 256) rfl (hb hby at_252) (by decide) (by decide) ?_
            exact k9)
        have b286 : (own_v3 ps276 len).toInt = (1 : Int) := by (have h01 := own_v3_01 ps276 len; omega)
        have pre287 : ∀ t, Steps p.tables e below (T282.setTop (mkF m 263 #[.val (.int p1), .val (.int p2), .val (.int p3), .val (.int p4), .val (.long q5), .second, .val (.int len), .val (.int (1 : Int32)), .val (.ref b250), .val (.ref b263), .val (.int (own_v3 (0 : Int32) len)), .val (.int (len - (1 : Int32))), .val (.int k), .val (.int (0 : Int32)), .val (.int (own_v3 ps276 len)), .val (.int (own_v3 ps276 len))] [(.int (own_v3 ps276 len)), (.int (own_v3 ps276 len))])) t → Steps p.tables e below (s₁.setTop (entryFrame m #[(.int p1), (.int p2), (.int p3), (.int p4), (.long q5)] maxLocals)) t := fun t9 k9 => pre285 t9 (by
            show Steps p.tables e below (T282.setTop (mkF m 256 #[.val (.int p1), .val (.int p2), .val (.int p3), .val (.int p4), .val (.long q5), .second, .val (.int len), .val (.int (1 : Int32)), .val (.ref b250), .val (.ref b263), .val (.int (own_v3 (0 : Int32) len)), .val (.int (len - (1 : Int32))), .val (.int k), .val (.int (0 : Int32)), .val (.int (own_v3 ps276 len)), .val (.int (own_v3 ps276 len))] [(.int (1 : Int32)), (.int (own_v3 ps276 len))])) _
            refine XS.icmpNo X282.here hx rfl (hb hby at_256) rfl (own_ne_f (a := (own_v3 ps276 len).toInt) (b := (1 : Int)) rfl (by decide) b286) ?_
            show Steps p.tables e below (T282.setTop (mkF m 259 #[.val (.int p1), .val (.int p2), .val (.int p3), .val (.int p4), .val (.long q5), .second, .val (.int len), .val (.int (1 : Int32)), .val (.ref b250), .val (.ref b263), .val (.int (own_v3 (0 : Int32) len)), .val (.int (len - (1 : Int32))), .val (.int k), .val (.int (0 : Int32)), .val (.int (own_v3 ps276 len)), .val (.int (own_v3 ps276 len))] [])) _
            refine XS.iload X282.here hx rfl (hb hby at_259) rfl ?_
            show Steps p.tables e below (T282.setTop (mkF m 261 #[.val (.int p1), .val (.int p2), .val (.int p3), .val (.int p4), .val (.long q5), .second, .val (.int len), .val (.int (1 : Int32)), .val (.ref b250), .val (.ref b263), .val (.int (own_v3 (0 : Int32) len)), .val (.int (len - (1 : Int32))), .val (.int k), .val (.int (0 : Int32)), .val (.int (own_v3 ps276 len)), .val (.int (own_v3 ps276 len))] [(.int (own_v3 ps276 len))])) _
            refine XS.iload X282.here hx rfl (hb hby at_261) rfl ?_
            exact k9)
        have b288 : (own_v3 ps276 len).toInt = (own_v3 ps276 len).toInt := by rfl
        have pre289 : ∀ t, Steps p.tables e below (T282.setTop (mkF m 271 #[.val (.int p1), .val (.int p2), .val (.int p3), .val (.int p4), .val (.long q5), .second, .val (.int len), .val (.int (1 : Int32)), .val (.ref b250), .val (.ref b263), .val (.int (own_v3 (0 : Int32) len)), .val (.int (len - (1 : Int32))), .val (.int k), .val (.int (0 : Int32)), .val (.int (own_v3 ps276 len)), .val (.int (own_v3 ps276 len))] [(.int (1 : Int32))])) t → Steps p.tables e below (s₁.setTop (entryFrame m #[(.int p1), (.int p2), (.int p3), (.int p4), (.long q5)] maxLocals)) t := fun t9 k9 => pre287 t9 (by
            show Steps p.tables e below (T282.setTop (mkF m 263 #[.val (.int p1), .val (.int p2), .val (.int p3), .val (.int p4), .val (.long q5), .second, .val (.int len), .val (.int (1 : Int32)), .val (.ref b250), .val (.ref b263), .val (.int (own_v3 (0 : Int32) len)), .val (.int (len - (1 : Int32))), .val (.int k), .val (.int (0 : Int32)), .val (.int (own_v3 ps276 len)), .val (.int (own_v3 ps276 len))] [(.int (own_v3 ps276 len)), (.int (own_v3 ps276 len))])) _
            refine XS.icmpNo X282.here hx rfl (hb hby at_263) rfl (own_ne_f (a := (own_v3 ps276 len).toInt) (b := (own_v3 ps276 len).toInt) rfl rfl b288) ?_
            show Steps p.tables e below (T282.setTop (mkF m 266 #[.val (.int p1), .val (.int p2), .val (.int p3), .val (.int p4), .val (.long q5), .second, .val (.int len), .val (.int (1 : Int32)), .val (.ref b250), .val (.ref b263), .val (.int (own_v3 (0 : Int32) len)), .val (.int (len - (1 : Int32))), .val (.int k), .val (.int (0 : Int32)), .val (.int (own_v3 ps276 len)), .val (.int (own_v3 ps276 len))] [])) _
            refine XS.iconst X282.here hx rfl (hb hby at_266) ?_
            show Steps p.tables e below (T282.setTop (mkF m 267 #[.val (.int p1), .val (.int p2), .val (.int p3), .val (.int p4), .val (.long q5), .second, .val (.int len), .val (.int (1 : Int32)), .val (.ref b250), .val (.ref b263), .val (.int (own_v3 (0 : Int32) len)), .val (.int (len - (1 : Int32))), .val (.int k), .val (.int (0 : Int32)), .val (.int (own_v3 ps276 len)), .val (.int (own_v3 ps276 len))] [(.int (1 : Int32))])) _
            refine XS.goto X282.here hx rfl (pc0 := 267) (pc' := 271) rfl (hb hby at_267) (by decide) (by decide) ?_
            exact k9)
        obtain ⟨fs, hr, hrun, hended, hW, hsame⟩ := X282.leave (v := some (.int (1 : Int32))) (fun h => by rw [Bd.returns] at h; cases h)
        refine ⟨_, _, pre289 _ ?_, hrun, hended, _, _, rfl, ?_, ⟨_, rfl⟩, hW, hsame.mono (by decide) (by decide)⟩
        · show Steps p.tables e below (T282.setTop (mkF m 271 #[.val (.int p1), .val (.int p2), .val (.int p3), .val (.int p4), .val (.long q5), .second, .val (.int len), .val (.int (1 : Int32)), .val (.ref b250), .val (.ref b263), .val (.int (own_v3 (0 : Int32) len)), .val (.int (len - (1 : Int32))), .val (.int k), .val (.int (0 : Int32)), .val (.int (own_v3 ps276 len)), .val (.int (own_v3 ps276 len))] [(.int (1 : Int32))])) _
          exact retN X282 hx (t := .boolean) Bd.returns (by simp) (hb hby at_271) hr
        · show Q0 Z p1 p2 p3 p4 q5 h0 n0 _ T282.heap _
          rw [e282]
          exact ⟨rfl, N282⟩
      · have hpk : ps276.toInt = k.toInt + 1 := by rw [hps276]; exact own_at_s _ _ (by assumption)
        obtain ⟨cq290, kq290, q290a, q290b, q290c⟩ := isOf hZ rfl E276x
        obtain ⟨_, _, ⟨T290, L290, k290, n290⟩, -, X290, ⟨Lc290, hQ290, l290, y290, z290⟩, st290⟩ := X276.virtualBack hx (y := (⟨"com/example/pesquisa/pesquisa/index/ByteSource", "hasMore", "()Z"⟩ : MethodName)) (z := (⟨"com/example/pesquisa/pesquisa/index/ByteSource", "hasMore", "()Z"⟩ : MethodName)) hown (mvT hZ (hw _ (List.mem_of_getElem? (i := 16) rfl))) (mvT hZ (hw _ (List.mem_of_getElem? (i := 17) rfl))) (notFace_of_selects (args := #[]) (mvT hZ (hw _ (List.mem_of_getElem? (i := 19) rfl)))) (mvT hZ (hw _ (List.mem_of_getElem? (i := 19) rfl))) (mvT hZ (hw _ (List.mem_of_getElem? (i := 18) rfl))) (by decide) (backOf (W := 0) (rm3 l Z a0 hw [] b263 len ps276 T276.heap n0 Z276 Fe276 Fp276) hZ (hw _ (List.mem_of_getElem? (i := 20) rfl)) (hw _ (List.mem_of_getElem? (i := 5) rfl)) (by decide) (by decide)) q290a q290c (g := (mkF m 230 #[.val (.int p1), .val (.int p2), .val (.int p3), .val (.int p4), .val (.long q5), .second, .val (.int len), .val (.int (1 : Int32)), .val (.ref b250), .val (.ref b263), .val (.int (own_v3 (0 : Int32) len)), .val (.int (len - (1 : Int32))), .val (.int k), .val (.int (k + (1 : Int32))), .unset, .unset] [(.ref b263)])) rfl (by rw [hml]; rfl) (Steps.refl _) (argsL := []) (rest := []) (lenOf pd_0_1 rfl) rfl (by show 2 * 0 + _ ≤ _; exact Nat.le_of_eq rfl) (hb hby at_230) (fun _ _ => ⟨rfl, rfl, (by decide : 2 + 0 ≤ _), (by decide : 9 + 0 ≤ _)⟩)
        dsimp only [Pt.U, Pt.locs, Pt.cells, Pt.slots] at X290 l290 y290 z290 st290 hQ290
        subst l290 y290 z290
        obtain ⟨hv290, N290q, e290⟩ := hQ290
        subst hv290
        have N290 := Fr.app N276 N290q
        obtain ⟨cq291, kq291, q291a, q291b, q291c⟩ := isOf hZ e290 E276x
        obtain ⟨_, _, ⟨T291, L291, k291, n291⟩, -, X291, ⟨Lc291, hQ291, l291, y291, z291⟩, st291⟩ := X290.virtualBack hx (y := (⟨"com/example/pesquisa/pesquisa/index/ByteSource", "hasMore", "()Z"⟩ : MethodName)) (z := (⟨"com/example/pesquisa/pesquisa/index/ByteSource", "hasMore", "()Z"⟩ : MethodName)) hown (mvT hZ (hw _ (List.mem_of_getElem? (i := 16) rfl))) (mvT hZ (hw _ (List.mem_of_getElem? (i := 17) rfl))) (notFace_of_selects (args := #[]) (mvT hZ (hw _ (List.mem_of_getElem? (i := 19) rfl)))) (mvT hZ (hw _ (List.mem_of_getElem? (i := 19) rfl))) (mvT hZ (hw _ (List.mem_of_getElem? (i := 18) rfl))) (by decide) (backOf (W := 0) (rm3 l Z a0 hw [] b263 len ps276 T276.heap n0 Z276 Fe276 Fp276) hZ (hw _ (List.mem_of_getElem? (i := 20) rfl)) (hw _ (List.mem_of_getElem? (i := 5) rfl)) (by decide) (by decide)) q291a q291c (g := (mkF m 237 #[.val (.int p1), .val (.int p2), .val (.int p3), .val (.int p4), .val (.long q5), .second, .val (.int len), .val (.int (1 : Int32)), .val (.ref b250), .val (.ref b263), .val (.int (own_v3 (0 : Int32) len)), .val (.int (len - (1 : Int32))), .val (.int k), .val (.int (k + (1 : Int32))), .val (.int (own_v3 ps276 len)), .unset] [(.ref b263)])) rfl (by rw [hml]; rfl) (Steps.refl _) (argsL := []) (rest := []) (lenOf pd_0_1 rfl) rfl (by show 2 * 0 + _ ≤ _; exact Nat.le_of_eq rfl) (hb hby at_237) (fun _ _ => ⟨rfl, e290, (by decide : 2 + 0 ≤ _), (by decide : 9 + 0 ≤ _)⟩)
        dsimp only [Pt.U, Pt.locs, Pt.cells, Pt.slots] at X291 l291 y291 z291 st291 hQ291
        subst l291 y291 z291
        obtain ⟨hv291, N291q, e291⟩ := hQ291
        subst hv291
        have N291 := Fr.app N290 N291q
        have pre292 : ∀ t, Steps p.tables e below (T291.setTop (mkF m 248 #[.val (.int p1), .val (.int p2), .val (.int p3), .val (.int p4), .val (.long q5), .second, .val (.int len), .val (.int (1 : Int32)), .val (.ref b250), .val (.ref b263), .val (.int (own_v3 (0 : Int32) len)), .val (.int (len - (1 : Int32))), .val (.int k), .val (.int (k + (1 : Int32))), .val (.int (own_v3 ps276 len)), .val (.int (own_v3 ps276 len))] [(.int len), (.int (k + (1 : Int32))), (.int (own_v3 ps276 len))])) t → Steps p.tables e below (s₁.setTop (entryFrame m #[(.int p1), (.int p2), (.int p3), (.int p4), (.long q5)] maxLocals)) t := fun t9 k9 => pre279 t9 (by
            show Steps p.tables e below (T276.setTop (mkF m 205 #[.val (.int p1), .val (.int p2), .val (.int p3), .val (.int p4), .val (.long q5), .second, .val (.int len), .val (.int (1 : Int32)), .val (.ref b250), .val (.ref b263), .val (.int (own_v3 (0 : Int32) len)), .val (.int (len - (1 : Int32))), .val (.int k), .unset, .unset, .unset] [(.int k)])) _
            refine XS.ifYes X276.here hx rfl (pc0 := 205) (pc' := 212) rfl (hb hby at_205) rfl ((if0 _ _).trans (own_ne_t (a := k.toInt) (b := (0 : Int)) rfl (by decide) b280)) (by decide) (by decide) ?_
            show Steps p.tables e below (T276.setTop (mkF m 212 #[.val (.int p1), .val (.int p2), .val (.int p3), .val (.int p4), .val (.long q5), .second, .val (.int len), .val (.int (1 : Int32)), .val (.ref b250), .val (.ref b263), .val (.int (own_v3 (0 : Int32) len)), .val (.int (len - (1 : Int32))), .val (.int k), .unset, .unset, .unset] [])) _
            refine XS.iload X276.here hx rfl (hb hby at_212) rfl ?_
            show Steps p.tables e below (T276.setTop (mkF m 214 #[.val (.int p1), .val (.int p2), .val (.int p3), .val (.int p4), .val (.long q5), .second, .val (.int len), .val (.int (1 : Int32)), .val (.ref b250), .val (.ref b263), .val (.int (own_v3 (0 : Int32) len)), .val (.int (len - (1 : Int32))), .val (.int k), .unset, .unset, .unset] [(.int (1 : Int32))])) _
            refine XS.ifNo X276.here hx rfl (hb hby at_214) rfl ((if0 _ _).trans (own_eq_f (a := (1 : Int)) (b := (0 : Int)) (by decide) (by decide) (by decide))) ?_
            show Steps p.tables e below (T276.setTop (mkF m 217 #[.val (.int p1), .val (.int p2), .val (.int p3), .val (.int p4), .val (.long q5), .second, .val (.int len), .val (.int (1 : Int32)), .val (.ref b250), .val (.ref b263), .val (.int (own_v3 (0 : Int32) len)), .val (.int (len - (1 : Int32))), .val (.int k), .unset, .unset, .unset] [])) _
            refine XS.iload X276.here hx rfl (hb hby at_217) rfl ?_
            show Steps p.tables e below (T276.setTop (mkF m 219 #[.val (.int p1), .val (.int p2), .val (.int p3), .val (.int p4), .val (.long q5), .second, .val (.int len), .val (.int (1 : Int32)), .val (.ref b250), .val (.ref b263), .val (.int (own_v3 (0 : Int32) len)), .val (.int (len - (1 : Int32))), .val (.int k), .unset, .unset, .unset] [(.int k)])) _
            refine XS.iconst X276.here hx rfl (hb hby at_219) ?_
            show Steps p.tables e below (T276.setTop (mkF m 220 #[.val (.int p1), .val (.int p2), .val (.int p3), .val (.int p4), .val (.long q5), .second, .val (.int len), .val (.int (1 : Int32)), .val (.ref b250), .val (.ref b263), .val (.int (own_v3 (0 : Int32) len)), .val (.int (len - (1 : Int32))), .val (.int k), .unset, .unset, .unset] [(.int (1 : Int32)), (.int k)])) _
            refine XS.iadd X276.here hx rfl (hb hby at_220) rfl ?_
            show Steps p.tables e below (T276.setTop (mkF m 221 #[.val (.int p1), .val (.int p2), .val (.int p3), .val (.int p4), .val (.long q5), .second, .val (.int len), .val (.int (1 : Int32)), .val (.ref b250), .val (.ref b263), .val (.int (own_v3 (0 : Int32) len)), .val (.int (len - (1 : Int32))), .val (.int k), .unset, .unset, .unset] [(.int (k + (1 : Int32)))])) _
            refine XS.goto X276.here hx rfl (pc0 := 221) (pc' := 226) rfl (hb hby at_221) (by decide) (by decide) ?_
            show Steps p.tables e below (T276.setTop (mkF m 226 #[.val (.int p1), .val (.int p2), .val (.int p3), .val (.int p4), .val (.long q5), .second, .val (.int len), .val (.int (1 : Int32)), .val (.ref b250), .val (.ref b263), .val (.int (own_v3 (0 : Int32) len)), .val (.int (len - (1 : Int32))), .val (.int k), .unset, .unset, .unset] [(.int (k + (1 : Int32)))])) _
            refine XS.istore X276.here hx rfl (hb hby at_226) rfl (l' := #[.val (.int p1), .val (.int p2), .val (.int p3), .val (.int p4), .val (.long q5), .second, .val (.int len), .val (.int (1 : Int32)), .val (.ref b250), .val (.ref b263), .val (.int (own_v3 (0 : Int32) len)), .val (.int (len - (1 : Int32))), .val (.int k), .val (.int (k + (1 : Int32))), .unset, .unset]) rfl ?_
            show Steps p.tables e below (T276.setTop (mkF m 228 #[.val (.int p1), .val (.int p2), .val (.int p3), .val (.int p4), .val (.long q5), .second, .val (.int len), .val (.int (1 : Int32)), .val (.ref b250), .val (.ref b263), .val (.int (own_v3 (0 : Int32) len)), .val (.int (len - (1 : Int32))), .val (.int k), .val (.int (k + (1 : Int32))), .unset, .unset] [])) _
            refine XS.aload X276.here hx rfl (hb hby at_228) rfl rfl ?_
            show Steps p.tables e below (T276.setTop (mkF m 230 #[.val (.int p1), .val (.int p2), .val (.int p3), .val (.int p4), .val (.long q5), .second, .val (.int len), .val (.int (1 : Int32)), .val (.ref b250), .val (.ref b263), .val (.int (own_v3 (0 : Int32) len)), .val (.int (len - (1 : Int32))), .val (.int k), .val (.int (k + (1 : Int32))), .unset, .unset] [(.ref b263)])) _
            refine st290.trans ?_
            show Steps p.tables e below (T290.setTop (mkF m 233 #[.val (.int p1), .val (.int p2), .val (.int p3), .val (.int p4), .val (.long q5), .second, .val (.int len), .val (.int (1 : Int32)), .val (.ref b250), .val (.ref b263), .val (.int (own_v3 (0 : Int32) len)), .val (.int (len - (1 : Int32))), .val (.int k), .val (.int (k + (1 : Int32))), .unset, .unset] [(.int (own_v3 ps276 len))])) _
            refine XS.istore X290.here hx rfl (hb hby at_233) rfl (l' := #[.val (.int p1), .val (.int p2), .val (.int p3), .val (.int p4), .val (.long q5), .second, .val (.int len), .val (.int (1 : Int32)), .val (.ref b250), .val (.ref b263), .val (.int (own_v3 (0 : Int32) len)), .val (.int (len - (1 : Int32))), .val (.int k), .val (.int (k + (1 : Int32))), .val (.int (own_v3 ps276 len)), .unset]) rfl ?_
            show Steps p.tables e below (T290.setTop (mkF m 235 #[.val (.int p1), .val (.int p2), .val (.int p3), .val (.int p4), .val (.long q5), .second, .val (.int len), .val (.int (1 : Int32)), .val (.ref b250), .val (.ref b263), .val (.int (own_v3 (0 : Int32) len)), .val (.int (len - (1 : Int32))), .val (.int k), .val (.int (k + (1 : Int32))), .val (.int (own_v3 ps276 len)), .unset] [])) _
            refine XS.aload X290.here hx rfl (hb hby at_235) rfl rfl ?_
            show Steps p.tables e below (T290.setTop (mkF m 237 #[.val (.int p1), .val (.int p2), .val (.int p3), .val (.int p4), .val (.long q5), .second, .val (.int len), .val (.int (1 : Int32)), .val (.ref b250), .val (.ref b263), .val (.int (own_v3 (0 : Int32) len)), .val (.int (len - (1 : Int32))), .val (.int k), .val (.int (k + (1 : Int32))), .val (.int (own_v3 ps276 len)), .unset] [(.ref b263)])) _
            refine st291.trans ?_
            show Steps p.tables e below (T291.setTop (mkF m 240 #[.val (.int p1), .val (.int p2), .val (.int p3), .val (.int p4), .val (.long q5), .second, .val (.int len), .val (.int (1 : Int32)), .val (.ref b250), .val (.ref b263), .val (.int (own_v3 (0 : Int32) len)), .val (.int (len - (1 : Int32))), .val (.int k), .val (.int (k + (1 : Int32))), .val (.int (own_v3 ps276 len)), .unset] [(.int (own_v3 ps276 len))])) _
            refine XS.istore X291.here hx rfl (hb hby at_240) rfl (l' := #[.val (.int p1), .val (.int p2), .val (.int p3), .val (.int p4), .val (.long q5), .second, .val (.int len), .val (.int (1 : Int32)), .val (.ref b250), .val (.ref b263), .val (.int (own_v3 (0 : Int32) len)), .val (.int (len - (1 : Int32))), .val (.int k), .val (.int (k + (1 : Int32))), .val (.int (own_v3 ps276 len)), .val (.int (own_v3 ps276 len))]) rfl ?_
            show Steps p.tables e below (T291.setTop (mkF m 242 #[.val (.int p1), .val (.int p2), .val (.int p3), .val (.int p4), .val (.long q5), .second, .val (.int len), .val (.int (1 : Int32)), .val (.ref b250), .val (.ref b263), .val (.int (own_v3 (0 : Int32) len)), .val (.int (len - (1 : Int32))), .val (.int k), .val (.int (k + (1 : Int32))), .val (.int (own_v3 ps276 len)), .val (.int (own_v3 ps276 len))] [])) _
            refine XS.iload X291.here hx rfl (hb hby at_242) rfl ?_
            show Steps p.tables e below (T291.setTop (mkF m 244 #[.val (.int p1), .val (.int p2), .val (.int p3), .val (.int p4), .val (.long q5), .second, .val (.int len), .val (.int (1 : Int32)), .val (.ref b250), .val (.ref b263), .val (.int (own_v3 (0 : Int32) len)), .val (.int (len - (1 : Int32))), .val (.int k), .val (.int (k + (1 : Int32))), .val (.int (own_v3 ps276 len)), .val (.int (own_v3 ps276 len))] [(.int (own_v3 ps276 len))])) _
            refine XS.iload X291.here hx rfl (hb hby at_244) rfl ?_
            show Steps p.tables e below (T291.setTop (mkF m 246 #[.val (.int p1), .val (.int p2), .val (.int p3), .val (.int p4), .val (.long q5), .second, .val (.int len), .val (.int (1 : Int32)), .val (.ref b250), .val (.ref b263), .val (.int (own_v3 (0 : Int32) len)), .val (.int (len - (1 : Int32))), .val (.int k), .val (.int (k + (1 : Int32))), .val (.int (own_v3 ps276 len)), .val (.int (own_v3 ps276 len))] [(.int (k + (1 : Int32))), (.int (own_v3 ps276 len))])) _
            refine XS.iload X291.here hx rfl (hb hby at_246) rfl ?_
            exact k9)
        by_cases b293 : (k + (1 : Int32)).toInt < len.toInt
        · have pre294 : ∀ t, Steps p.tables e below (T291.setTop (mkF m 256 #[.val (.int p1), .val (.int p2), .val (.int p3), .val (.int p4), .val (.long q5), .second, .val (.int len), .val (.int (1 : Int32)), .val (.ref b250), .val (.ref b263), .val (.int (own_v3 (0 : Int32) len)), .val (.int (len - (1 : Int32))), .val (.int k), .val (.int (k + (1 : Int32))), .val (.int (own_v3 ps276 len)), .val (.int (own_v3 ps276 len))] [(.int (1 : Int32)), (.int (own_v3 ps276 len))])) t → Steps p.tables e below (s₁.setTop (entryFrame m #[(.int p1), (.int p2), (.int p3), (.int p4), (.long q5)] maxLocals)) t := fun t9 k9 => pre292 t9 (by
              show Steps p.tables e below (T291.setTop (mkF m 248 #[.val (.int p1), .val (.int p2), .val (.int p3), .val (.int p4), .val (.long q5), .second, .val (.int len), .val (.int (1 : Int32)), .val (.ref b250), .val (.ref b263), .val (.int (own_v3 (0 : Int32) len)), .val (.int (len - (1 : Int32))), .val (.int k), .val (.int (k + (1 : Int32))), .val (.int (own_v3 ps276 len)), .val (.int (own_v3 ps276 len))] [(.int len), (.int (k + (1 : Int32))), (.int (own_v3 ps276 len))])) _
              refine XS.icmpNo X291.here hx rfl (hb hby at_248) rfl (own_ge_f (a := (k + (1 : Int32)).toInt) (b := len.toInt) rfl rfl b293) ?_
              show Steps p.tables e below (T291.setTop (mkF m 251 #[.val (.int p1), .val (.int p2), .val (.int p3), .val (.int p4), .val (.long q5), .second, .val (.int len), .val (.int (1 : Int32)), .val (.ref b250), .val (.ref b263), .val (.int (own_v3 (0 : Int32) len)), .val (.int (len - (1 : Int32))), .val (.int k), .val (.int (k + (1 : Int32))), .val (.int (own_v3 ps276 len)), .val (.int (own_v3 ps276 len))] [(.int (own_v3 ps276 len))])) _
              refine XS.iconst X291.here hx rfl (hb hby at_251) ?_
              show Steps p.tables e below (T291.setTop (mkF m 252 #[.val (.int p1), .val (.int p2), .val (.int p3), .val (.int p4), .val (.long q5), .second, .val (.int len), .val (.int (1 : Int32)), .val (.ref b250), .val (.ref b263), .val (.int (own_v3 (0 : Int32) len)), .val (.int (len - (1 : Int32))), .val (.int k), .val (.int (k + (1 : Int32))), .val (.int (own_v3 ps276 len)), .val (.int (own_v3 ps276 len))] [(.int (1 : Int32)), (.int (own_v3 ps276 len))])) _
              refine XS.goto X291.here hx rfl (pc0 := 252) (pc' := 256) rfl (hb hby at_252) (by decide) (by decide) ?_
              exact k9)
          have b295 : (own_v3 ps276 len).toInt = (1 : Int) := by (have h01 := own_v3_01 ps276 len; omega)
          have pre296 : ∀ t, Steps p.tables e below (T291.setTop (mkF m 263 #[.val (.int p1), .val (.int p2), .val (.int p3), .val (.int p4), .val (.long q5), .second, .val (.int len), .val (.int (1 : Int32)), .val (.ref b250), .val (.ref b263), .val (.int (own_v3 (0 : Int32) len)), .val (.int (len - (1 : Int32))), .val (.int k), .val (.int (k + (1 : Int32))), .val (.int (own_v3 ps276 len)), .val (.int (own_v3 ps276 len))] [(.int (own_v3 ps276 len)), (.int (own_v3 ps276 len))])) t → Steps p.tables e below (s₁.setTop (entryFrame m #[(.int p1), (.int p2), (.int p3), (.int p4), (.long q5)] maxLocals)) t := fun t9 k9 => pre294 t9 (by
              show Steps p.tables e below (T291.setTop (mkF m 256 #[.val (.int p1), .val (.int p2), .val (.int p3), .val (.int p4), .val (.long q5), .second, .val (.int len), .val (.int (1 : Int32)), .val (.ref b250), .val (.ref b263), .val (.int (own_v3 (0 : Int32) len)), .val (.int (len - (1 : Int32))), .val (.int k), .val (.int (k + (1 : Int32))), .val (.int (own_v3 ps276 len)), .val (.int (own_v3 ps276 len))] [(.int (1 : Int32)), (.int (own_v3 ps276 len))])) _
              refine XS.icmpNo X291.here hx rfl (hb hby at_256) rfl (own_ne_f (a := (own_v3 ps276 len).toInt) (b := (1 : Int)) rfl (by decide) b295) ?_
              show Steps p.tables e below (T291.setTop (mkF m 259 #[.val (.int p1), .val (.int p2), .val (.int p3), .val (.int p4), .val (.long q5), .second, .val (.int len), .val (.int (1 : Int32)), .val (.ref b250), .val (.ref b263), .val (.int (own_v3 (0 : Int32) len)), .val (.int (len - (1 : Int32))), .val (.int k), .val (.int (k + (1 : Int32))), .val (.int (own_v3 ps276 len)), .val (.int (own_v3 ps276 len))] [])) _
              refine XS.iload X291.here hx rfl (hb hby at_259) rfl ?_
              show Steps p.tables e below (T291.setTop (mkF m 261 #[.val (.int p1), .val (.int p2), .val (.int p3), .val (.int p4), .val (.long q5), .second, .val (.int len), .val (.int (1 : Int32)), .val (.ref b250), .val (.ref b263), .val (.int (own_v3 (0 : Int32) len)), .val (.int (len - (1 : Int32))), .val (.int k), .val (.int (k + (1 : Int32))), .val (.int (own_v3 ps276 len)), .val (.int (own_v3 ps276 len))] [(.int (own_v3 ps276 len))])) _
              refine XS.iload X291.here hx rfl (hb hby at_261) rfl ?_
              exact k9)
          have b297 : (own_v3 ps276 len).toInt = (own_v3 ps276 len).toInt := by rfl
          have pre298 : ∀ t, Steps p.tables e below (T291.setTop (mkF m 271 #[.val (.int p1), .val (.int p2), .val (.int p3), .val (.int p4), .val (.long q5), .second, .val (.int len), .val (.int (1 : Int32)), .val (.ref b250), .val (.ref b263), .val (.int (own_v3 (0 : Int32) len)), .val (.int (len - (1 : Int32))), .val (.int k), .val (.int (k + (1 : Int32))), .val (.int (own_v3 ps276 len)), .val (.int (own_v3 ps276 len))] [(.int (1 : Int32))])) t → Steps p.tables e below (s₁.setTop (entryFrame m #[(.int p1), (.int p2), (.int p3), (.int p4), (.long q5)] maxLocals)) t := fun t9 k9 => pre296 t9 (by
              show Steps p.tables e below (T291.setTop (mkF m 263 #[.val (.int p1), .val (.int p2), .val (.int p3), .val (.int p4), .val (.long q5), .second, .val (.int len), .val (.int (1 : Int32)), .val (.ref b250), .val (.ref b263), .val (.int (own_v3 (0 : Int32) len)), .val (.int (len - (1 : Int32))), .val (.int k), .val (.int (k + (1 : Int32))), .val (.int (own_v3 ps276 len)), .val (.int (own_v3 ps276 len))] [(.int (own_v3 ps276 len)), (.int (own_v3 ps276 len))])) _
              refine XS.icmpNo X291.here hx rfl (hb hby at_263) rfl (own_ne_f (a := (own_v3 ps276 len).toInt) (b := (own_v3 ps276 len).toInt) rfl rfl b297) ?_
              show Steps p.tables e below (T291.setTop (mkF m 266 #[.val (.int p1), .val (.int p2), .val (.int p3), .val (.int p4), .val (.long q5), .second, .val (.int len), .val (.int (1 : Int32)), .val (.ref b250), .val (.ref b263), .val (.int (own_v3 (0 : Int32) len)), .val (.int (len - (1 : Int32))), .val (.int k), .val (.int (k + (1 : Int32))), .val (.int (own_v3 ps276 len)), .val (.int (own_v3 ps276 len))] [])) _
              refine XS.iconst X291.here hx rfl (hb hby at_266) ?_
              show Steps p.tables e below (T291.setTop (mkF m 267 #[.val (.int p1), .val (.int p2), .val (.int p3), .val (.int p4), .val (.long q5), .second, .val (.int len), .val (.int (1 : Int32)), .val (.ref b250), .val (.ref b263), .val (.int (own_v3 (0 : Int32) len)), .val (.int (len - (1 : Int32))), .val (.int k), .val (.int (k + (1 : Int32))), .val (.int (own_v3 ps276 len)), .val (.int (own_v3 ps276 len))] [(.int (1 : Int32))])) _
              refine XS.goto X291.here hx rfl (pc0 := 267) (pc' := 271) rfl (hb hby at_267) (by decide) (by decide) ?_
              exact k9)
          obtain ⟨fs, hr, hrun, hended, hW, hsame⟩ := X291.leave (v := some (.int (1 : Int32))) (fun h => by rw [Bd.returns] at h; cases h)
          refine ⟨_, _, pre298 _ ?_, hrun, hended, _, _, rfl, ?_, ⟨_, rfl⟩, hW, hsame.mono (by decide) (by decide)⟩
          · show Steps p.tables e below (T291.setTop (mkF m 271 #[.val (.int p1), .val (.int p2), .val (.int p3), .val (.int p4), .val (.long q5), .second, .val (.int len), .val (.int (1 : Int32)), .val (.ref b250), .val (.ref b263), .val (.int (own_v3 (0 : Int32) len)), .val (.int (len - (1 : Int32))), .val (.int k), .val (.int (k + (1 : Int32))), .val (.int (own_v3 ps276 len)), .val (.int (own_v3 ps276 len))] [(.int (1 : Int32))])) _
            exact retN X291 hx (t := .boolean) Bd.returns (by simp) (hb hby at_271) hr
          · show Q0 Z p1 p2 p3 p4 q5 h0 n0 _ T291.heap _
            rw [e291]
            exact ⟨rfl, N291⟩
        · have pre299 : ∀ t, Steps p.tables e below (T291.setTop (mkF m 256 #[.val (.int p1), .val (.int p2), .val (.int p3), .val (.int p4), .val (.long q5), .second, .val (.int len), .val (.int (1 : Int32)), .val (.ref b250), .val (.ref b263), .val (.int (own_v3 (0 : Int32) len)), .val (.int (len - (1 : Int32))), .val (.int k), .val (.int (k + (1 : Int32))), .val (.int (own_v3 ps276 len)), .val (.int (own_v3 ps276 len))] [(.int (0 : Int32)), (.int (own_v3 ps276 len))])) t → Steps p.tables e below (s₁.setTop (entryFrame m #[(.int p1), (.int p2), (.int p3), (.int p4), (.long q5)] maxLocals)) t := fun t9 k9 => pre292 t9 (by
              show Steps p.tables e below (T291.setTop (mkF m 248 #[.val (.int p1), .val (.int p2), .val (.int p3), .val (.int p4), .val (.long q5), .second, .val (.int len), .val (.int (1 : Int32)), .val (.ref b250), .val (.ref b263), .val (.int (own_v3 (0 : Int32) len)), .val (.int (len - (1 : Int32))), .val (.int k), .val (.int (k + (1 : Int32))), .val (.int (own_v3 ps276 len)), .val (.int (own_v3 ps276 len))] [(.int len), (.int (k + (1 : Int32))), (.int (own_v3 ps276 len))])) _
              refine XS.icmpYes X291.here hx rfl (pc0 := 248) (pc' := 255) rfl (hb hby at_248) rfl (own_ge_t (a := (k + (1 : Int32)).toInt) (b := len.toInt) rfl rfl b293) (by decide) (by decide) ?_
              show Steps p.tables e below (T291.setTop (mkF m 255 #[.val (.int p1), .val (.int p2), .val (.int p3), .val (.int p4), .val (.long q5), .second, .val (.int len), .val (.int (1 : Int32)), .val (.ref b250), .val (.ref b263), .val (.int (own_v3 (0 : Int32) len)), .val (.int (len - (1 : Int32))), .val (.int k), .val (.int (k + (1 : Int32))), .val (.int (own_v3 ps276 len)), .val (.int (own_v3 ps276 len))] [(.int (own_v3 ps276 len))])) _
              refine XS.iconst X291.here hx rfl (hb hby at_255) ?_
              exact k9)
          have b300 : (own_v3 ps276 len).toInt = (0 : Int) := by (have h01 := own_v3_01 ps276 len; omega)
          have pre301 : ∀ t, Steps p.tables e below (T291.setTop (mkF m 263 #[.val (.int p1), .val (.int p2), .val (.int p3), .val (.int p4), .val (.long q5), .second, .val (.int len), .val (.int (1 : Int32)), .val (.ref b250), .val (.ref b263), .val (.int (own_v3 (0 : Int32) len)), .val (.int (len - (1 : Int32))), .val (.int k), .val (.int (k + (1 : Int32))), .val (.int (own_v3 ps276 len)), .val (.int (own_v3 ps276 len))] [(.int (own_v3 ps276 len)), (.int (own_v3 ps276 len))])) t → Steps p.tables e below (s₁.setTop (entryFrame m #[(.int p1), (.int p2), (.int p3), (.int p4), (.long q5)] maxLocals)) t := fun t9 k9 => pre299 t9 (by
              show Steps p.tables e below (T291.setTop (mkF m 256 #[.val (.int p1), .val (.int p2), .val (.int p3), .val (.int p4), .val (.long q5), .second, .val (.int len), .val (.int (1 : Int32)), .val (.ref b250), .val (.ref b263), .val (.int (own_v3 (0 : Int32) len)), .val (.int (len - (1 : Int32))), .val (.int k), .val (.int (k + (1 : Int32))), .val (.int (own_v3 ps276 len)), .val (.int (own_v3 ps276 len))] [(.int (0 : Int32)), (.int (own_v3 ps276 len))])) _
              refine XS.icmpNo X291.here hx rfl (hb hby at_256) rfl (own_ne_f (a := (own_v3 ps276 len).toInt) (b := (0 : Int)) rfl (by decide) b300) ?_
              show Steps p.tables e below (T291.setTop (mkF m 259 #[.val (.int p1), .val (.int p2), .val (.int p3), .val (.int p4), .val (.long q5), .second, .val (.int len), .val (.int (1 : Int32)), .val (.ref b250), .val (.ref b263), .val (.int (own_v3 (0 : Int32) len)), .val (.int (len - (1 : Int32))), .val (.int k), .val (.int (k + (1 : Int32))), .val (.int (own_v3 ps276 len)), .val (.int (own_v3 ps276 len))] [])) _
              refine XS.iload X291.here hx rfl (hb hby at_259) rfl ?_
              show Steps p.tables e below (T291.setTop (mkF m 261 #[.val (.int p1), .val (.int p2), .val (.int p3), .val (.int p4), .val (.long q5), .second, .val (.int len), .val (.int (1 : Int32)), .val (.ref b250), .val (.ref b263), .val (.int (own_v3 (0 : Int32) len)), .val (.int (len - (1 : Int32))), .val (.int k), .val (.int (k + (1 : Int32))), .val (.int (own_v3 ps276 len)), .val (.int (own_v3 ps276 len))] [(.int (own_v3 ps276 len))])) _
              refine XS.iload X291.here hx rfl (hb hby at_261) rfl ?_
              exact k9)
          have b302 : (own_v3 ps276 len).toInt = (own_v3 ps276 len).toInt := by rfl
          have pre303 : ∀ t, Steps p.tables e below (T291.setTop (mkF m 271 #[.val (.int p1), .val (.int p2), .val (.int p3), .val (.int p4), .val (.long q5), .second, .val (.int len), .val (.int (1 : Int32)), .val (.ref b250), .val (.ref b263), .val (.int (own_v3 (0 : Int32) len)), .val (.int (len - (1 : Int32))), .val (.int k), .val (.int (k + (1 : Int32))), .val (.int (own_v3 ps276 len)), .val (.int (own_v3 ps276 len))] [(.int (1 : Int32))])) t → Steps p.tables e below (s₁.setTop (entryFrame m #[(.int p1), (.int p2), (.int p3), (.int p4), (.long q5)] maxLocals)) t := fun t9 k9 => pre301 t9 (by
              show Steps p.tables e below (T291.setTop (mkF m 263 #[.val (.int p1), .val (.int p2), .val (.int p3), .val (.int p4), .val (.long q5), .second, .val (.int len), .val (.int (1 : Int32)), .val (.ref b250), .val (.ref b263), .val (.int (own_v3 (0 : Int32) len)), .val (.int (len - (1 : Int32))), .val (.int k), .val (.int (k + (1 : Int32))), .val (.int (own_v3 ps276 len)), .val (.int (own_v3 ps276 len))] [(.int (own_v3 ps276 len)), (.int (own_v3 ps276 len))])) _
              refine XS.icmpNo X291.here hx rfl (hb hby at_263) rfl (own_ne_f (a := (own_v3 ps276 len).toInt) (b := (own_v3 ps276 len).toInt) rfl rfl b302) ?_
              show Steps p.tables e below (T291.setTop (mkF m 266 #[.val (.int p1), .val (.int p2), .val (.int p3), .val (.int p4), .val (.long q5), .second, .val (.int len), .val (.int (1 : Int32)), .val (.ref b250), .val (.ref b263), .val (.int (own_v3 (0 : Int32) len)), .val (.int (len - (1 : Int32))), .val (.int k), .val (.int (k + (1 : Int32))), .val (.int (own_v3 ps276 len)), .val (.int (own_v3 ps276 len))] [])) _
              refine XS.iconst X291.here hx rfl (hb hby at_266) ?_
              show Steps p.tables e below (T291.setTop (mkF m 267 #[.val (.int p1), .val (.int p2), .val (.int p3), .val (.int p4), .val (.long q5), .second, .val (.int len), .val (.int (1 : Int32)), .val (.ref b250), .val (.ref b263), .val (.int (own_v3 (0 : Int32) len)), .val (.int (len - (1 : Int32))), .val (.int k), .val (.int (k + (1 : Int32))), .val (.int (own_v3 ps276 len)), .val (.int (own_v3 ps276 len))] [(.int (1 : Int32))])) _
              refine XS.goto X291.here hx rfl (pc0 := 267) (pc' := 271) rfl (hb hby at_267) (by decide) (by decide) ?_
              exact k9)
          obtain ⟨fs, hr, hrun, hended, hW, hsame⟩ := X291.leave (v := some (.int (1 : Int32))) (fun h => by rw [Bd.returns] at h; cases h)
          refine ⟨_, _, pre303 _ ?_, hrun, hended, _, _, rfl, ?_, ⟨_, rfl⟩, hW, hsame.mono (by decide) (by decide)⟩
          · show Steps p.tables e below (T291.setTop (mkF m 271 #[.val (.int p1), .val (.int p2), .val (.int p3), .val (.int p4), .val (.long q5), .second, .val (.int len), .val (.int (1 : Int32)), .val (.ref b250), .val (.ref b263), .val (.int (own_v3 (0 : Int32) len)), .val (.int (len - (1 : Int32))), .val (.int k), .val (.int (k + (1 : Int32))), .val (.int (own_v3 ps276 len)), .val (.int (own_v3 ps276 len))] [(.int (1 : Int32))])) _
            exact retN X291 hx (t := .boolean) Bd.returns (by simp) (hb hby at_271) hr
          · show Q0 Z p1 p2 p3 p4 q5 h0 n0 _ T291.heap _
            rw [e291]
            exact ⟨rfl, N291⟩
set_option maxRecDepth 65536 in
set_option maxHeartbeats 40000000 in
theorem comes_1 {Post : Tables → Env → Array Value → State → Outcome → State → Prop} (hpost : ∀ tb e args s v u, (limb_1_1.after args s (.returned v) u = true ∧ limb_1_2.after args s (.returned v) u = true ∧ True) → FrameEnd s (.returned v) u (Jvm.fieldLocs frame_1_writes args s ++ Jvm.arrayLocs frame_1_arrays args s ++ Jvm.staticLocs frame_1_statics s) 16 128 → Post tb e args s (.returned v) u) :
    ArmFor flags0 classFile x code maxLocals ret World_1 tables_1 room_1 Calls_1 rest_1 Pre_1 Post := by
  intro l hfl _ _ p e ha hc hk s m args below hf hA hF happ hP
  obtain ⟨hcalls, hrest, hpre⟩ := hP
  obtain ⟨-, -, -, hnamed, -, -, -, hat⟩ := (Spec.applies_iff hf).mp happ
  obtain ⟨hg, hn⟩ := and_e (Cond.before_iff.mp (show (Jvm.Cond.and given_1 narrow_1).before args s = true from hpre))
  obtain ⟨gc, g0⟩ := and_e hg
  obtain ⟨ga0, g1⟩ := and_e g0
  obtain ⟨ga1, g2⟩ := and_e g1
  obtain ⟨ga2, g3⟩ := and_e g2
  obtain ⟨ga3, g4⟩ := and_e g3
  obtain ⟨w0, w1, w2, w3, w4, rfl⟩ : ∃ w0 w1 w2 w3 w4 : Value, args = #[w0, w1, w2, w3, w4] := by
    have hs : args.size = 5 := by simpa [Cond.value, given_1] using gc
    obtain ⟨L⟩ := args
    match L, hs with
    | [w0, w1, w2, w3, w4], _ => exact ⟨w0, w1, w2, w3, w4, rfl⟩
  have hw := fun d (hd : d ∈ tables_1) => atoms_spec (ws := Jvm.Cond.code x code maxLocals ret :: tables_1) hat d (List.mem_cons_of_mem _ hd)
  obtain ⟨i0, ei0⟩ := is_v ga0
  obtain rfl : w0 = (.int i0) := Option.some.inj ei0
  obtain ⟨i1, ei1⟩ := is_v ga1
  obtain rfl : w1 = (.int i1) := Option.some.inj ei1
  obtain ⟨i2, ei2⟩ := is_v ga2
  obtain rfl : w2 = (.int i2) := Option.some.inj ei2
  obtain ⟨i3, ei3⟩ := is_v ga3
  obtain rfl : w3 = (.int i3) := Option.some.inj ei3
  obtain ⟨i4, ei4⟩ := isL_v g4
  obtain rfl : w4 = (.long i4) := Option.some.inj ei4
  obtain ⟨n, o, h1, h2, h3, _, L, rfl, ⟨rfl, N⟩, hq⟩ := rm0 l s _ hw tables_1 i0 i1 i2 i3 i4 s.heap s.heap.size (Nat.le_refl _) p e ha hc hk s m _ below hf ((Spec.applies_iff_loose hf).mp happ).1 ⟨rfl, State.Warmed39.refl s, rfl⟩ trivial
  refine ⟨n, _, h1, h2, h3, hpost _ _ _ _ _ _ ⟨Cond.after_iff.mpr rfl, Cond.after_iff.mpr (eq_i res_at (Term.int_eval (1)) rfl), trivial⟩ ⟨hq.1, hq.2.1, (hq.2.2.sift fun y hy => Or.inr (N y hy)).mono (by decide) (by decide)⟩⟩
theorem main_1_1 : Claimed_1_1 := comes_1 fun _ _ _ _ _ _ h hF => ⟨h.1, hF⟩
theorem main_1_2 : Claimed_1_2 := comes_1 fun _ _ _ _ _ _ h hF => ⟨h.2.1, hF⟩
end Jvm.Pilot.@@N@@
namespace Jvm.Pilot.@@N@@
open Jvm Jvm.ClassFile Sem Op Lib Jvm.Free Jvm.Stand Jvm.Pilot.@@N@@.Jvm.D
/-! MADE BY PROGRAM (witnessworld.py) out of the Statement's table words and the real class files: 10 classes; the members and pool entries that the words name. The judged class is class 1, her method 1. -/
namespace start1
open Jvm.ClassFile
def u (s : String) : CpInfo := .utf8 (stringToUtf16 s)
/-- a pool by its gaps: so many unusable entries, then the entry; so many at the end -/
def gap : Nat → List CpInfo → List CpInfo
  | 0, r => r
  | n + 1, r => .unusable :: gap n r
def poolList (es : List (Nat × CpInfo)) (last : Nat) : List CpInfo := es.foldr (fun e r => gap e.1 (e.2 :: r)) (gap last [])
def pool (es : List (Nat × CpInfo)) (last : Nat) : Array CpInfo := ⟨poolList es last⟩
def fileOf (pool : Array CpInfo) (this : Nat) (attrs : Array Attribute := #[]) (ms : Array MethodInfo := #[]) (fl : Nat := 33) (sup : Nat := 0) (ifs : Array Nat := #[]) (fds : Array FieldInfo := #[]) : ClassFile where
  minorVersion := 0
  majorVersion := 65
  constantPool := pool
  accessFlags := fl
  thisClass := this
  superClass := sup
  interfaces := ifs
  fields := fds
  methods := ms
  attributes := attrs
def plain (name : String) (sup : Option ClassId) : Class where
  name := name
  kind := .ordinary
  loader := none
  accessFlags := 33
  super := sup
  interfaces := #[]
  cf := none
  fields := #[]
  methods := #[]
  instanceTypes := #[]
  staticTypes := #[]
  resolved := #[]
  callSites := []
  init := .initialized
  statics := none
  mirror := none

def pool0 : Array CpInfo := pool [(5, u "<init>"), (0, u "()V"), (1, .class_ 10), (1, u "java/lang/Object")] 113

def k0c0 : Code := { maxStack := 0, maxLocals := 1, code := object_method_1_code, exceptionTable := #[], attributes := #[] }
def k0m0 : Method := { name := "<init>", desc := "()V", sig := { parameters := [], returnType := none }, accessFlags := 1, code := some k0c0 }
/-- java/lang/Object -/
def k0 : Class := { plain "java/lang/Object" none with
  accessFlags := 33
  interfaces := #[]
  cf := some (fileOf pool0 8 #[] #[{ accessFlags := 1, nameIndex := 5, descriptorIndex := 6, attributes := #[] }] 33 0 #[] #[])
  fields := #[]
  methods := #[k0m0]
  instanceTypes := #[]
  staticTypes := #[]
  resolved := Array.replicate 124 none
  statics := none }

def pool1 : Array CpInfo := pool [(2, .class_ 4), (1, u "java/lang/Object"), (0, u "<init>"), (0, u "()V"), (0, .integer 2147483647), (0, .long 127), (1, .class_ 11), (0, u "com/example/pesquisa/pesquisa/index/ByteSource"), (0, .methodref 10 13), (0, .nameAndType 5 14), (0, u "([BI)V"), (0, .methodref 10 16), (0, .nameAndType 17 18), (0, u "hasMore"), (0, u "()Z"), (0, .methodref 20 21), (0, .class_ 22), (0, .nameAndType 23 24), (0, u "java/lang/Math"), (0, u "min"), (0, u "(II)I"), (0, .methodref 10 26), (0, .nameAndType 27 28), (0, u "skipNumbers"), (0, u "(J)V"), (0, .class_ 30), (0, u "com/example/pesquisa/pesquisa/index/ByteSourceHasMorePinLaw"), (2, u "law"), (0, u "(IIIIJ)Z")] 5

def k1m0 : Method := { name := "<init>", desc := "()V", sig := { parameters := [], returnType := none }, accessFlags := 1, code := none }
def k1c1 : Code := { maxStack := 6, maxLocals := 16, code := code, exceptionTable := #[], attributes := #[] }
def k1m1 : Method := { name := "law", desc := "(IIIIJ)Z", sig := { parameters := [.int, .int, .int, .int, .long], returnType := some .boolean }, accessFlags := 9, code := some k1c1 }
/-- com/example/pesquisa/pesquisa/index/ByteSourceHasMorePinLaw -/
def k1 : Class := { plain "com/example/pesquisa/pesquisa/index/ByteSourceHasMorePinLaw" (some 0) with
  accessFlags := 49
  interfaces := #[]
  cf := some (fileOf pool1 29 #[] #[{ accessFlags := 1, nameIndex := 5, descriptorIndex := 6, attributes := #[] }, { accessFlags := 9, nameIndex := 33, descriptorIndex := 34, attributes := #[] }] 49 2 #[] #[])
  fields := #[]
  methods := #[k1m0, k1m1]
  instanceTypes := #[]
  staticTypes := #[]
  resolved := Array.replicate 40 none
  statics := none }

def pool2 : Array CpInfo := pool [(2, .class_ 4), (1, u "com/example/pesquisa/pesquisa/index/ByteSource"), (0, u "<init>"), (0, u "([BI)V"), (0, .methodref 8 9), (0, .class_ 10), (0, .nameAndType 5 11), (0, u "java/lang/Object"), (0, u "()V"), (0, .fieldref 2 13), (0, .nameAndType 14 15), (0, u "bytes"), (0, u "[B"), (0, .fieldref 2 17), (0, .nameAndType 18 19), (0, u "end"), (0, u "I"), (0, .fieldref 2 21), (0, .nameAndType 22 19), (0, u "position"), (9, .methodref 2 33), (0, .nameAndType 34 35), (0, u "readNumber"), (0, u "()J"), (25, u "MAX_NUMBER_BYTES"), (8, u "skipNumbers"), (0, u "(J)V"), (0, u "hasMore"), (0, u "()Z")] 17

def k2c0 : Code := { maxStack := 2, maxLocals := 3, code := prog_42_method_2_code, exceptionTable := #[], attributes := #[] }
def k2m0 : Method := { name := "<init>", desc := "([BI)V", sig := { parameters := [(.array .byte), .int], returnType := none }, accessFlags := 0, code := some k2c0 }
def k2c1 : Code := { maxStack := 5, maxLocals := 5, code := prog_42_method_3_code, exceptionTable := #[], attributes := #[] }
def k2m1 : Method := { name := "readNumber", desc := "()J", sig := { parameters := [], returnType := some .long }, accessFlags := 0, code := some k2c1 }
def k2c2 : Code := { maxStack := 4, maxLocals := 5, code := prog_42_method_6_code, exceptionTable := #[], attributes := #[] }
def k2m2 : Method := { name := "skipNumbers", desc := "(J)V", sig := { parameters := [.long], returnType := none }, accessFlags := 0, code := some k2c2 }
def k2c3 : Code := { maxStack := 2, maxLocals := 1, code := prog_42_method_8_code, exceptionTable := #[], attributes := #[] }
def k2m3 : Method := { name := "hasMore", desc := "()Z", sig := { parameters := [], returnType := some .boolean }, accessFlags := 0, code := some k2c3 }
/-- com/example/pesquisa/pesquisa/index/ByteSource -/
def k2 : Class := { plain "com/example/pesquisa/pesquisa/index/ByteSource" (some 0) with
  accessFlags := 48
  interfaces := #[]
  cf := some (fileOf pool2 2 #[] #[{ accessFlags := 0, nameIndex := 5, descriptorIndex := 6, attributes := #[] }, { accessFlags := 0, nameIndex := 34, descriptorIndex := 35, attributes := #[] }, { accessFlags := 0, nameIndex := 70, descriptorIndex := 71, attributes := #[] }, { accessFlags := 0, nameIndex := 72, descriptorIndex := 73, attributes := #[] }] 48 8 #[] #[{ accessFlags := 26, nameIndex := 61, descriptorIndex := 19, attributes := #[] }, { accessFlags := 18, nameIndex := 14, descriptorIndex := 15, attributes := #[] }, { accessFlags := 18, nameIndex := 18, descriptorIndex := 19, attributes := #[] }, { accessFlags := 2, nameIndex := 22, descriptorIndex := 19, attributes := #[] }])
  fields := #[{ name := "MAX_NUMBER_BYTES", type := .int, accessFlags := 26, slot := 0, constantValue := 0 }, { name := "bytes", type := (.array .byte), accessFlags := 18, slot := 0, constantValue := 0 }, { name := "end", type := .int, accessFlags := 18, slot := 1, constantValue := 0 }, { name := "position", type := .int, accessFlags := 2, slot := 2, constantValue := 0 }]
  methods := #[k2m0, k2m1, k2m2, k2m3]
  instanceTypes := #[(.array .byte), .int, .int]
  staticTypes := #[.int]
  resolved := Array.replicate 91 none
  statics := none }

def pool3 : Array CpInfo := pool [(1, .class_ 2), (0, u "java/lang/Math"), (1, .class_ 6), (1, u "java/lang/Object"), (0, u "<init>"), (0, u "()V"), (89, .class_ 100), (1, u "java/lang/Math$RandomNumberGeneratorHolder"), (71, u "negativeZeroFloatBits"), (0, u "J"), (2, u "negativeZeroDoubleBits"), (24, u "min"), (43, u "$assertionsDisabled"), (0, u "Z"), (88, u "(II)I"), (2, u "twoToTheDoubleScaleDown"), (0, u "D"), (4, u "twoToTheDoubleScaleUp"), (9, u "E"), (3, u "PI"), (2, u "TAU"), (2, u "DEGREES_TO_RADIANS"), (0, u "RADIANS_TO_DEGREES")] 94

def k3m0 : Method := { name := "<init>", desc := "()V", sig := { parameters := [], returnType := none }, accessFlags := 2, code := none }
def k3c1 : Code := { maxStack := 2, maxLocals := 2, code := jdk_29_method_69_code, exceptionTable := #[], attributes := #[] }
def k3m1 : Method := { name := "min", desc := "(II)I", sig := { parameters := [.int, .int], returnType := some .int }, accessFlags := 9, code := some k3c1 }
/-- java/lang/Math -/
def k3 : Class := { plain "java/lang/Math" (some 0) with
  accessFlags := 49
  interfaces := #[]
  cf := some (fileOf pool3 1 #[.nestMembers #[98]] #[{ accessFlags := 2, nameIndex := 7, descriptorIndex := 8, attributes := #[] }, { accessFlags := 9, nameIndex := 201, descriptorIndex := 335, attributes := #[] }] 49 4 #[] #[{ accessFlags := 25, nameIndex := 354, descriptorIndex := 339, attributes := #[] }, { accessFlags := 25, nameIndex := 358, descriptorIndex := 339, attributes := #[] }, { accessFlags := 25, nameIndex := 361, descriptorIndex := 339, attributes := #[] }, { accessFlags := 26, nameIndex := 364, descriptorIndex := 339, attributes := #[] }, { accessFlags := 26, nameIndex := 365, descriptorIndex := 339, attributes := #[] }, { accessFlags := 26, nameIndex := 172, descriptorIndex := 173, attributes := #[] }, { accessFlags := 26, nameIndex := 176, descriptorIndex := 173, attributes := #[] }, { accessFlags := 8, nameIndex := 344, descriptorIndex := 339, attributes := #[] }, { accessFlags := 8, nameIndex := 338, descriptorIndex := 339, attributes := #[] }, { accessFlags := 4120, nameIndex := 245, descriptorIndex := 246, attributes := #[] }])
  fields := #[{ name := "E", type := .double, accessFlags := 25, slot := 0, constantValue := 0 }, { name := "PI", type := .double, accessFlags := 25, slot := 1, constantValue := 0 }, { name := "TAU", type := .double, accessFlags := 25, slot := 2, constantValue := 0 }, { name := "DEGREES_TO_RADIANS", type := .double, accessFlags := 26, slot := 3, constantValue := 0 }, { name := "RADIANS_TO_DEGREES", type := .double, accessFlags := 26, slot := 4, constantValue := 0 }, { name := "negativeZeroFloatBits", type := .long, accessFlags := 26, slot := 5, constantValue := 0 }, { name := "negativeZeroDoubleBits", type := .long, accessFlags := 26, slot := 6, constantValue := 0 }, { name := "twoToTheDoubleScaleUp", type := .double, accessFlags := 8, slot := 7, constantValue := 0 }, { name := "twoToTheDoubleScaleDown", type := .double, accessFlags := 8, slot := 8, constantValue := 0 }, { name := "$assertionsDisabled", type := .boolean, accessFlags := 4120, slot := 9, constantValue := 0 }]
  methods := #[k3m0, k3m1]
  instanceTypes := #[]
  staticTypes := #[.double, .double, .double, .double, .double, .long, .long, .double, .double, .boolean]
  resolved := Array.replicate 460 none
  statics := none }

def pool4 : Array CpInfo := pool [(1, u "java/lang/Cloneable"), (0, .class_ 1), (0, u "java/lang/Object"), (0, .class_ 3)] 3

/-- java/lang/Cloneable -/
def k4 : Class := { plain "java/lang/Cloneable" (some 0) with
  accessFlags := 1537
  interfaces := #[]
  cf := some (fileOf pool4 2 #[] #[] 1537 4 #[] #[])
  fields := #[]
  methods := #[]
  instanceTypes := #[]
  staticTypes := #[]
  resolved := Array.replicate 8 none
  statics := none }

def pool5 : Array CpInfo := pool [(1, u "java/io/Serializable"), (0, .class_ 1), (0, u "java/lang/Object"), (0, .class_ 3)] 3

/-- java/io/Serializable -/
def k5 : Class := { plain "java/io/Serializable" (some 0) with
  accessFlags := 1537
  interfaces := #[]
  cf := some (fileOf pool5 2 #[] #[] 1537 4 #[] #[])
  fields := #[]
  methods := #[]
  instanceTypes := #[]
  staticTypes := #[]
  resolved := Array.replicate 8 none
  statics := none }

/-- the primitive byte -/
def k6 : Class := { plain "byte" none with kind := .primitive 'B', accessFlags := 0x411 }
/-- [B -/
def k7 : Class := { plain "[B" (some 0) with kind := .array 6 .byte, interfaces := #[4, 5], accessFlags := 1041 }

/-- the primitive int -/
def k8 : Class := { plain "int" none with kind := .primitive 'I', accessFlags := 0x411 }
/-- [I -/
def k9 : Class := { plain "[I" (some 0) with kind := .array 8 .int, interfaces := #[4, 5], accessFlags := 1041 }

def heap : Heap := #[]
def classes : Array Class := #[k0, k1, k2, k3, k4, k5, k6, k7, k8, k9]
def interned : List (Array UInt16 × Addr) := []
def slotsUsed : Nat := 0
def theMethod : MethodId := ⟨1, 1⟩
def args0 : Array Value := #[.int 5, .int 2, .int 1, .int 7, .long 9]
def aboutOver (below : List Frame) : State where
  vm := { classes := classes, interned := interned.toArray }
  heap := heap
  slotsUsed := slotsUsed
  threads := #[{ frames := .invoking theMethod args0 :: below }]
def below0 : List Frame := [.native { method := ⟨0, 0⟩, args := #[] }]
def about1 : State := aboutOver below0
def p0 : Program := .bare "" "" ""
def e0 : Env := launch0.env 0 0 0
theorem w_frames : about1.frames = Frame.invoking theMethod args0 :: below0 := rfl
set_option maxRecDepth 65536 in
theorem w_args : argsFit about1.vm theMethod args0 = true := by decide +kernel
set_option maxRecDepth 65536 in
theorem w_heap : heapFits about1 = true := by decide +kernel
set_option maxRecDepth 65536 in
theorem w_runnable : about1.curStatus? = some .runnable := by decide +kernel
set_option maxRecDepth 65536 in
theorem w_alone : about1.alone = true := by decide +kernel
set_option maxRecDepth 65536 in
theorem w_named : about1.methodNamed? x = some theMethod := by decide +kernel
set_option maxRecDepth 65536 in
theorem w_hears : about1.hears theMethod below0 = true := by decide +kernel
set_option maxRecDepth 65536 in
theorem w_ripe : about1.ripe theMethod args0 below0 = true := by decide +kernel
theorem w_running : about1.status = .running := rfl
set_option maxRecDepth 65536 in
theorem w_room : about1.hasRoom e0.platform room_1 = true :=
  launch0.hasRoom_least _ room_1 (by decide +kernel) (by decide +kernel) (by decide +kernel) (by decide +kernel) (by decide +kernel) (by decide +kernel)
theorem allAtoms_all (ts : List Jvm.Cond) (a : Array Jvm.Value) (st : Jvm.State) : (allAtoms ts).before a st = ts.all (fun c => c.before a st) := by
  induction ts with
  | nil => rfl
  | cons c t ih =>
    show (Jvm.Cond.and c (allAtoms t)).before a st = _
    rw [Jvm.Cond.before_and, ih, List.all_cons]
def words1 : List Jvm.Cond := Jvm.Cond.code x code maxLocals ret :: tables_1
/-- a 'code' word, met by the world's own term for the bytes: nothing is compared byte by byte -/
theorem code_word {y : MethodName} {bytes : ByteArray} {mx : Nat} {rt : Option FieldType} {a : Array Value} {s : State} {m : MethodId} {meth : Method} {c : Code} (h1 : s.methodNamed? y = some m) (h2 : s.vm.method? m = some meth) (h3 : meth.code = some c) (h4 : c.code = bytes)
    (h5 : (c.maxLocals == mx && c.exceptionTable.isEmpty && decide (c.maxStack ≤ mostOperands) && decide (meth.sig.returnType = rt) && !meth.locks && decide (parseMethodDescriptor y.desc = some meth.sig)) = true) : (Jvm.Cond.code y bytes mx rt).before a s = true := by
  simp only [Bool.and_eq_true, beq_iff_eq, Bool.not_eq_true', decide_eq_true_eq] at h5
  obtain ⟨⟨⟨⟨⟨g1, g2⟩, g3⟩, g4⟩, g5⟩, g6⟩ := h5
  simp [Cond.before, Cond.holds, Cond.value, h1, h2, h3, h4, g1, g2, g3, g4, g5, g6]
def isCode : Jvm.Cond → Bool
  | .code _ _ _ _ => true
  | _ => false
theorem all_split {L : List Jvm.Cond} {P : Jvm.Cond → Bool} (h1 : L.all (fun c => isCode c || P c) = true) (h2 : ∀ c ∈ L.filter isCode, P c = true) : L.all P = true := by
  refine List.all_eq_true.mpr fun c hc => ?_
  have h := List.all_eq_true.mp h1 c hc
  rcases Bool.eq_false_or_eq_true (isCode c) with hi | hi
  · exact h2 c (List.mem_filter.mpr ⟨hc, hi⟩)
  · simpa [hi] using h
set_option maxRecDepth 65536 in
theorem w_c0 : (Jvm.Cond.code x code maxLocals ret).before args0 about1 = true := code_word (m := ⟨1, 1⟩) (meth := k1m1) (c := k1c1) (by decide +kernel) rfl rfl rfl (by decide +kernel)
set_option maxRecDepth 65536 in
theorem w_c1 : (Jvm.Cond.code ({ cls := "com/example/pesquisa/pesquisa/index/ByteSource", name := "<init>", desc := "([BI)V" } : Jvm.MethodName) prog_42_method_2_code (3 : Nat) (Option.none : Option Jvm.ClassFile.FieldType)).before args0 about1 = true := code_word (m := ⟨2, 0⟩) (meth := k2m0) (c := k2c0) (by decide +kernel) rfl rfl rfl (by decide +kernel)
set_option maxRecDepth 65536 in
theorem w_c2 : (Jvm.Cond.code ({ cls := "java/lang/Object", name := "<init>", desc := "()V" } : Jvm.MethodName) object_method_1_code (1 : Nat) (Option.none : Option Jvm.ClassFile.FieldType)).before args0 about1 = true := code_word (m := ⟨0, 0⟩) (meth := k0m0) (c := k0c0) (by decide +kernel) rfl rfl rfl (by decide +kernel)
set_option maxRecDepth 65536 in
theorem w_c3 : (Jvm.Cond.code ({ cls := "com/example/pesquisa/pesquisa/index/ByteSource", name := "hasMore", desc := "()Z" } : Jvm.MethodName) prog_42_method_8_code (1 : Nat) (Option.some Jvm.ClassFile.FieldType.boolean)).before args0 about1 = true := code_word (m := ⟨2, 3⟩) (meth := k2m3) (c := k2c3) (by decide +kernel) rfl rfl rfl (by decide +kernel)
set_option maxRecDepth 65536 in
theorem w_c4 : (Jvm.Cond.code ({ cls := "java/lang/Math", name := "min", desc := "(II)I" } : Jvm.MethodName) jdk_29_method_69_code (2 : Nat) (Option.some Jvm.ClassFile.FieldType.int)).before args0 about1 = true := code_word (m := ⟨3, 1⟩) (meth := k3m1) (c := k3c1) (by decide +kernel) rfl rfl rfl (by decide +kernel)
set_option maxRecDepth 65536 in
theorem w_c5 : (Jvm.Cond.code ({ cls := "com/example/pesquisa/pesquisa/index/ByteSource", name := "skipNumbers", desc := "(J)V" } : Jvm.MethodName) prog_42_method_6_code (5 : Nat) (Option.none : Option Jvm.ClassFile.FieldType)).before args0 about1 = true := code_word (m := ⟨2, 2⟩) (meth := k2m2) (c := k2c2) (by decide +kernel) rfl rfl rfl (by decide +kernel)
set_option maxRecDepth 65536 in
theorem w_c6 : (Jvm.Cond.code ({ cls := "com/example/pesquisa/pesquisa/index/ByteSource", name := "readNumber", desc := "()J" } : Jvm.MethodName) prog_42_method_3_code (5 : Nat) (Option.some Jvm.ClassFile.FieldType.long)).before args0 about1 = true := code_word (m := ⟨2, 1⟩) (meth := k2m1) (c := k2c1) (by decide +kernel) rfl rfl rfl (by decide +kernel)
def codes1 : List Jvm.Cond := [Jvm.Cond.code x code maxLocals ret, Jvm.Cond.code ({ cls := "com/example/pesquisa/pesquisa/index/ByteSource", name := "<init>", desc := "([BI)V" } : Jvm.MethodName) prog_42_method_2_code (3 : Nat) (Option.none : Option Jvm.ClassFile.FieldType), Jvm.Cond.code ({ cls := "java/lang/Object", name := "<init>", desc := "()V" } : Jvm.MethodName) object_method_1_code (1 : Nat) (Option.none : Option Jvm.ClassFile.FieldType), Jvm.Cond.code ({ cls := "com/example/pesquisa/pesquisa/index/ByteSource", name := "hasMore", desc := "()Z" } : Jvm.MethodName) prog_42_method_8_code (1 : Nat) (Option.some Jvm.ClassFile.FieldType.boolean), Jvm.Cond.code ({ cls := "java/lang/Math", name := "min", desc := "(II)I" } : Jvm.MethodName) jdk_29_method_69_code (2 : Nat) (Option.some Jvm.ClassFile.FieldType.int), Jvm.Cond.code ({ cls := "com/example/pesquisa/pesquisa/index/ByteSource", name := "skipNumbers", desc := "(J)V" } : Jvm.MethodName) prog_42_method_6_code (5 : Nat) (Option.none : Option Jvm.ClassFile.FieldType), Jvm.Cond.code ({ cls := "com/example/pesquisa/pesquisa/index/ByteSource", name := "readNumber", desc := "()J" } : Jvm.MethodName) prog_42_method_3_code (5 : Nat) (Option.some Jvm.ClassFile.FieldType.long)]
set_option maxRecDepth 65536 in
theorem codes_eq : words1.filter isCode = codes1 := rfl
theorem w_codes : ∀ c ∈ words1.filter isCode, c.before args0 about1 = true := by
  rw [codes_eq]
  intro c hc
  simp only [codes1, List.mem_cons, List.not_mem_nil, or_false] at hc
  rcases hc with rfl | rfl | rfl | rfl | rfl | rfl | rfl
  · exact w_c0
  · exact w_c1
  · exact w_c2
  · exact w_c3
  · exact w_c4
  · exact w_c5
  · exact w_c6
set_option maxRecDepth 65536 in
theorem w_t1 : (words1.take 24).all (fun c => isCode c || c.before args0 about1) = true := by decide +kernel
set_option maxRecDepth 65536 in
theorem w_t2 : (words1.drop 24).all (fun c => isCode c || c.before args0 about1) = true := by decide +kernel
theorem w_tables : (allAtoms (Jvm.Cond.code x code maxLocals ret :: tables_1)).before args0 about1 = true := by
  rw [allAtoms_all]
  show words1.all (fun c => c.before args0 about1) = true
  refine all_split ?_ w_codes
  rw [← List.take_append_drop 24 words1, List.all_append, w_t1, w_t2]
  rfl
set_option maxRecDepth 65536 in
theorem w_case : (Jvm.Cond.and given_1 narrow_1).before args0 about1 = true := by decide +kernel
theorem w_applies : (headSpec (Jvm.Cond.code x code maxLocals ret :: tables_1) room_1).applies x e0.platform about1 = true :=
  (Spec.applies_iff w_frames).mpr ⟨w_running, w_runnable, w_alone, w_named, w_hears, w_ripe, w_room, w_tables⟩
theorem atStart : AtStart classFile x code maxLocals ret World_1 tables_1 room_1 Calls_1 rest_1 Pre_1 launch0 p0 e0 about1 theMethod args0 below0 :=
  ⟨lists_1, trivial, launch0.admits_env _ _ _, launch0.least_env, fairChoices_fair.cas, fairChoices_fair.clock, w_frames, w_args, w_heap, w_applies, trivial, trivial, w_case⟩
end start1
theorem witness_1 : WitnessClaimed_1 := ⟨start1.p0, start1.e0, start1.about1, start1.theMethod, start1.args0, start1.below0, start1.atStart⟩
end Jvm.Pilot.@@N@@
