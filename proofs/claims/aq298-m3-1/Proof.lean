import JvmDerived
import JvmDerived.Pilot.@@N@@Statement
import JvmDerived.Pilot.@@N@@Code
set_option linter.unusedVariables false
set_option linter.unusedSimpArgs false
namespace Jvm.RoadKit
open Sem ClassFile Op Lib Jvm.Stand Jvm.Free Jvm.LawKit
section New
variable {p : Program} {l : Launch} {e : Env} {R : Room} {s : State} {m : MethodId} {args : Array Value} {below : List Frame} {meth : Method} {c : Code} {T : State} {locs : List Loc} {cells slots : Nat}
theorem retI (X : Stand p l e R s m args below meth c T locs cells slots) (hx : p.tables.exec = Jvm.exec) {pc : Nat} {Ls : Array Slot} {z : Int32} {rest : List Value} (hret : meth.sig.returnType = some .int) (hd : decode c.code pc = .ok (.ireturn, 1)) {fs : List Frame}
    (hl : ∀ (f : JFrame) (acts : List Action), f.method = m → f.locked = none → f.entered = [] → (doReturn e (T.setTop f) acts (some (.int z))).1 = T.setFrames fs) : Steps p.tables e below (T.setTop (mkF m pc Ls (.int z :: rest))) (T.setFrames fs) := by
  have hm' : T.vm.method? m = some meth := X.method'
  have hn : narrow .int (.int z) = .int z := rfl
  show Steps p.tables e below (T.setTop { method := m, pc := pc, locals := Ls, stack := _ :: rest, locked := none }) _
  jvm_step X.here [X.here.top, hx, hd, hm', hret, hn]
  first | (intro acts; rw [hl _ acts rfl rfl rfl]) | rw [hl _ _ rfl rfl rfl]
  exact Steps.refl _
end New
end Jvm.RoadKit
namespace Jvm.Pilot.@@N@@
open Jvm Jvm.ClassFile Sem Op Lib Jvm.Free Jvm.Stand Jvm.LawKit Jvm.RoadKit Bundle Jvm.Pilot.@@N@@.Jvm.D

theorem own_lt_t {x y : Int32} {a b : Int} (hx : x.toInt = a) (hy : y.toInt = b) (h : a < b) : if_icmp.holds .lt x y = true := (tlt (Int32.lt_iff_toInt_lt.mpr (by omega))).1
theorem own_lt_f {x y : Int32} {a b : Int} (hx : x.toInt = a) (hy : y.toInt = b) (h : ¬ (a < b)) : if_icmp.holds .lt x y = false := (flt (fun q => h (by have := Int32.lt_iff_toInt_lt.mp q; omega))).1
theorem own_ge_t {x y : Int32} {a b : Int} (hx : x.toInt = a) (hy : y.toInt = b) (h : ¬ (a < b)) : if_icmp.holds .ge x y = true := (flt (fun q => h (by have := Int32.lt_iff_toInt_lt.mp q; omega))).2.1
theorem own_ge_f {x y : Int32} {a b : Int} (hx : x.toInt = a) (hy : y.toInt = b) (h : a < b) : if_icmp.holds .ge x y = false := (tlt (Int32.lt_iff_toInt_lt.mpr (by omega))).2.1
theorem own_gt_t {x y : Int32} {a b : Int} (hx : x.toInt = a) (hy : y.toInt = b) (h : b < a) : if_icmp.holds .gt x y = true := (tlt (Int32.lt_iff_toInt_lt.mpr (by omega))).2.2.1
theorem own_gt_f {x y : Int32} {a b : Int} (hx : x.toInt = a) (hy : y.toInt = b) (h : ¬ (b < a)) : if_icmp.holds .gt x y = false := (flt (fun q => h (by have := Int32.lt_iff_toInt_lt.mp q; omega))).2.2.1
theorem own_le_t {x y : Int32} {a b : Int} (hx : x.toInt = a) (hy : y.toInt = b) (h : ¬ (b < a)) : if_icmp.holds .le x y = true := (flt (fun q => h (by have := Int32.lt_iff_toInt_lt.mp q; omega))).2.2.2
theorem own_le_f {x y : Int32} {a b : Int} (hx : x.toInt = a) (hy : y.toInt = b) (h : b < a) : if_icmp.holds .le x y = false := (tlt (Int32.lt_iff_toInt_lt.mpr (by omega))).2.2.2
theorem own_eq_t {x y : Int32} {a b : Int} (hx : x.toInt = a) (hy : y.toInt = b) (h : a = b) : if_icmp.holds .eq x y = true := (teq (Int32.toInt_inj.mp (by omega))).1
theorem own_eq_f {x y : Int32} {a b : Int} (hx : x.toInt = a) (hy : y.toInt = b) (h : ¬ (a = b)) : if_icmp.holds .eq x y = false := (feq (fun q => h (by rw [← hx, ← hy, q]))).1
theorem own_ne_t {x y : Int32} {a b : Int} (hx : x.toInt = a) (hy : y.toInt = b) (h : ¬ (a = b)) : if_icmp.holds .ne x y = true := (feq (fun q => h (by rw [← hx, ← hy, q]))).2
theorem own_ne_f {x y : Int32} {a b : Int} (hx : x.toInt = a) (hy : y.toInt = b) (h : a = b) : if_icmp.holds .ne x y = false := (teq (Int32.toInt_inj.mp (by omega))).2

def own_find (f : Int32 → Int32) (s : Int32) : Nat → Int32 → Int32
  | 0, i => i
  | k + 1, i => if (f i).toInt = s.toInt then i else own_find f s k (i + (1 : Int32))
abbrev own_P (f : Int32 → Int32) (a t s j : Int32) : Prop := a.toInt ≤ j.toInt ∧ j.toInt < t.toInt ∧ (f j).toInt = s.toInt
def own_exp (f : Int32 → Int32) (a t s : Int32) : Int32 := if own_P f a t s 0 then 0 else if own_P f a t s 1 then 1 else if own_P f a t s 2 then 2 else if own_P f a t s 3 then 3 else t
def own_in (cl : Cell) : Prop := ∀ j : Int32, 0 ≤ j.toInt → j.toInt < 4 → ¬ (j < 0 ∨ cl.slots.size ≤ j.toNatClampNeg) ∧ cl.slots[j.toNatClampNeg]? = some (.int (atv cl j))
theorem own_all {cl : Cell} {x0 x1 x2 x3 : Int32} {d : Value} (S : cl.slots.size = (4 : Int32).toNatClampNeg) (H : Has cl [.int x0, .int x1, .int x2, .int x3] d) : own_in cl := by
  intro j h0 h1
  have S4 : cl.slots.size = 4 := S
  have hj : ¬ j < 0 := fun q => by have := Int32.lt_iff_toInt_lt.mp q; have : (0 : Int32).toInt = 0 := by decide
                                   omega
  have hn := nat_of hj
  have hin : ¬ (j < 0 ∨ cl.slots.size ≤ j.toNatClampNeg) := by
    rintro (q | q)
    · exact hj q
    · omega
  refine ⟨hin, ?_⟩
  have key : ∃ x : Int32, cl.slots[j.toNatClampNeg]? = some (.int x) := by
    have hc : j.toNatClampNeg = 0 ∨ j.toNatClampNeg = 1 ∨ j.toNatClampNeg = 2 ∨ j.toNatClampNeg = 3 := by omega
    rcases hc with q | q | q | q <;> rw [q]
    · exact ⟨x0, H 0 (by omega)⟩
    · exact ⟨x1, H 1 (by omega)⟩
    · exact ⟨x2, H 2 (by omega)⟩
    · exact ⟨x3, H 3 (by omega)⟩
  obtain ⟨x, hx⟩ := key
  rw [atv_of hx]; exact hx
theorem own_lit {a : Int32} (h0 : 0 ≤ a.toInt) (h4 : a.toInt ≤ 4) : a = 0 ∨ a = 1 ∨ a = 2 ∨ a = 3 ∨ a = 4 := by
  have h : a.toInt = 0 ∨ a.toInt = 1 ∨ a.toInt = 2 ∨ a.toInt = 3 ∨ a.toInt = 4 := by omega
  rcases h with q | q | q | q | q
  · exact Or.inl (Int32.toInt_inj.mp (by rw [q]; decide))
  · exact Or.inr (Or.inl (Int32.toInt_inj.mp (by rw [q]; decide)))
  · exact Or.inr (Or.inr (Or.inl (Int32.toInt_inj.mp (by rw [q]; decide))))
  · exact Or.inr (Or.inr (Or.inr (Or.inl (Int32.toInt_inj.mp (by rw [q]; decide)))))
  · exact Or.inr (Or.inr (Or.inr (Or.inr (Int32.toInt_inj.mp (by rw [q]; decide)))))
set_option maxHeartbeats 4000000 in
theorem own_same (f : Int32 → Int32) (a t s : Int32) (h0 : 0 ≤ a.toInt) (h1 : a.toInt ≤ t.toInt) (h4 : t.toInt ≤ 4) : own_find f s (t.toInt - a.toInt).toNat a = own_exp f a t s := by
  rcases own_lit h0 (by omega) with rfl | rfl | rfl | rfl | rfl <;> rcases own_lit (by omega) h4 with rfl | rfl | rfl | rfl | rfl <;> first
    | (exact absurd h1 (by decide))
    | (by_cases q0 : (f 0).toInt = s.toInt <;> by_cases q1 : (f 1).toInt = s.toInt <;> by_cases q2 : (f 2).toInt = s.toInt <;> by_cases q3 : (f 3).toInt = s.toInt <;> simp [own_find, own_exp, own_P, q0, q1, q2, q3])

theorem d1_0 : decode prog_2_method_2_code 0 = .ok (.iload_n 1, 1) := by decide +kernel
theorem d1_1 : decode prog_2_method_2_code 1 = .ok (.istore 4, 2) := by decide +kernel
theorem d1_3 : decode prog_2_method_2_code 3 = .ok (.iload 4, 2) := by decide +kernel
theorem d1_5 : decode prog_2_method_2_code 5 = .ok (.iload_n 2, 1) := by decide +kernel
theorem d1_6 : decode prog_2_method_2_code 6 = .ok (.if_icmp .ge 17, 3) := by decide +kernel
theorem d1_9 : decode prog_2_method_2_code 9 = .ok (.aload_n 0, 1) := by decide +kernel
theorem d1_10 : decode prog_2_method_2_code 10 = .ok (.iload 4, 2) := by decide +kernel
theorem d1_12 : decode prog_2_method_2_code 12 = .ok (.baload, 1) := by decide +kernel
theorem d1_13 : decode prog_2_method_2_code 13 = .ok (.iload_n 3, 1) := by decide +kernel
theorem d1_14 : decode prog_2_method_2_code 14 = .ok (.if_icmp .eq 9, 3) := by decide +kernel
theorem d1_17 : decode prog_2_method_2_code 17 = .ok (.iinc 4 1, 3) := by decide +kernel
theorem d1_20 : decode prog_2_method_2_code 20 = .ok (.goto (-17), 3) := by decide +kernel
theorem d1_23 : decode prog_2_method_2_code 23 = .ok (.iload 4, 2) := by decide +kernel
theorem d1_25 : decode prog_2_method_2_code 25 = .ok (.ireturn, 1) := by decide +kernel
set_option maxRecDepth 65536 in
set_option maxHeartbeats 40000000 in
theorem loop1 {p : Program} {l : Launch} {e : Env} {R : Room} {s : State} {m : MethodId} {args : Array Value} {below : List Frame} {meth : Method} {c : Code} {locs : List Loc} {cells slots : Nat} {Z : State} {a0 : Array Value} {h0 : Heap} (a1 : Addr) (p2 p3 p4 : Int32) (cl : Cell) (hx : p.tables.exec = Jvm.exec) (hZ : Z.Warmed39 s.vm) (hw : ∀ d ∈ tables_1, d.before a0 Z = true) (hby : c.code = prog_2_method_2_code) (hml : c.maxLocals = 5) (hown : s.vm.findClass "com/example/trank/trank/ByteRuns" = some m.cls) (Ar : Arr Z h0 a1 cl .byte) (hall : own_in cl) (h4 : p3.toInt ≤ 4) :
    ∀ (k : Nat) (i : Int32) (T0 : State), 0 ≤ i.toInt → i.toInt + k = p3.toInt → Stand p l e R s m args below meth c T0 locs cells slots → T0.heap = h0 →
      ∃ T' : State, Stand p l e R s m args below meth c T' locs cells slots ∧ T'.heap = h0 ∧ ∀ t, Steps p.tables e below (T'.setTop (mkF m 23 #[.val (.ref a1), .val (.int p2), .val (.int p3), .val (.int p4), .val (.int (own_find (atv cl) p4 k i))] [])) t → Steps p.tables e below (T0.setTop (mkF m 3 #[.val (.ref a1), .val (.int p2), .val (.int p3), .val (.int p4), .val (.int i)] [])) t := by
  intro k
  induction k with
  | zero =>
    intro i T0 hi hk X0 e0
    have pre101 : ∀ t, Steps p.tables e below (T0.setTop (mkF m 6 #[.val (.ref a1), .val (.int p2), .val (.int p3), .val (.int p4), .val (.int i)] [(.int p3), (.int i)])) t → Steps p.tables e below (T0.setTop (mkF m 3 #[.val (.ref a1), .val (.int p2), .val (.int p3), .val (.int p4), .val (.int i)] [])) t := fun t9 k9 => (by
        show Steps p.tables e below (T0.setTop (mkF m 3 #[.val (.ref a1), .val (.int p2), .val (.int p3), .val (.int p4), .val (.int i)] [])) _
        refine XS.iload X0.here hx rfl (hb hby d1_3) rfl ?_
        show Steps p.tables e below (T0.setTop (mkF m 5 #[.val (.ref a1), .val (.int p2), .val (.int p3), .val (.int p4), .val (.int i)] [(.int i)])) _
        refine XS.iloadN X0.here hx rfl (hb hby d1_5) rfl ?_
        exact k9)
    have b102 : ¬ (i.toInt < p3.toInt) := by omega
    have pre103 : ∀ t, Steps p.tables e below (T0.setTop (mkF m 23 #[.val (.ref a1), .val (.int p2), .val (.int p3), .val (.int p4), .val (.int i)] [])) t → Steps p.tables e below (T0.setTop (mkF m 3 #[.val (.ref a1), .val (.int p2), .val (.int p3), .val (.int p4), .val (.int i)] [])) t := fun t9 k9 => pre101 t9 (by
        show Steps p.tables e below (T0.setTop (mkF m 6 #[.val (.ref a1), .val (.int p2), .val (.int p3), .val (.int p4), .val (.int i)] [(.int p3), (.int i)])) _
        refine XS.icmpYes X0.here hx rfl (pc0 := 6) (pc' := 23) rfl (hb hby d1_6) rfl (own_ge_t rfl rfl b102) (by decide) (by decide) ?_
        exact k9)
    exact ⟨T0, X0, e0, pre103⟩
  | succ k ih =>
    intro i T0 hi hk X0 e0
    have pre104 : ∀ t, Steps p.tables e below (T0.setTop (mkF m 6 #[.val (.ref a1), .val (.int p2), .val (.int p3), .val (.int p4), .val (.int i)] [(.int p3), (.int i)])) t → Steps p.tables e below (T0.setTop (mkF m 3 #[.val (.ref a1), .val (.int p2), .val (.int p3), .val (.int p4), .val (.int i)] [])) t := fun t9 k9 => (by
        show Steps p.tables e below (T0.setTop (mkF m 3 #[.val (.ref a1), .val (.int p2), .val (.int p3), .val (.int p4), .val (.int i)] [])) _
        refine XS.iload X0.here hx rfl (hb hby d1_3) rfl ?_
        show Steps p.tables e below (T0.setTop (mkF m 5 #[.val (.ref a1), .val (.int p2), .val (.int p3), .val (.int p4), .val (.int i)] [(.int i)])) _
        refine XS.iloadN X0.here hx rfl (hb hby d1_5) rfl ?_
        exact k9)
    have b105 : i.toInt < p3.toInt := by omega
    have pre106 : ∀ t, Steps p.tables e below (T0.setTop (mkF m 14 #[.val (.ref a1), .val (.int p2), .val (.int p3), .val (.int p4), .val (.int i)] [(.int p4), (.int (atv cl i))])) t → Steps p.tables e below (T0.setTop (mkF m 3 #[.val (.ref a1), .val (.int p2), .val (.int p3), .val (.int p4), .val (.int i)] [])) t := fun t9 k9 => pre104 t9 (by
        show Steps p.tables e below (T0.setTop (mkF m 6 #[.val (.ref a1), .val (.int p2), .val (.int p3), .val (.int p4), .val (.int i)] [(.int p3), (.int i)])) _
        refine XS.icmpNo X0.here hx rfl (hb hby d1_6) rfl (own_ge_f rfl rfl b105) ?_
        show Steps p.tables e below (T0.setTop (mkF m 9 #[.val (.ref a1), .val (.int p2), .val (.int p3), .val (.int p4), .val (.int i)] [])) _
        refine XS.aloadN X0.here hx rfl (hb hby d1_9) rfl rfl ?_
        show Steps p.tables e below (T0.setTop (mkF m 10 #[.val (.ref a1), .val (.int p2), .val (.int p3), .val (.int p4), .val (.int i)] [(.ref a1)])) _
        refine XS.iload X0.here hx rfl (hb hby d1_10) rfl ?_
        show Steps p.tables e below (T0.setTop (mkF m 12 #[.val (.ref a1), .val (.int p2), .val (.int p3), .val (.int p4), .val (.int i)] [(.int i), (.ref a1)])) _
        refine X0.baloadBytes hx (j := i) (v := (.int (atv cl i))) (by rw [e0]; exact Ar.1) (State.isArrayOf_alike hZ.alike Ar.2.1) Ar.2.2 (hall i hi (by omega)).1 (hall i hi (by omega)).2 (g := (mkF m 12 #[.val (.ref a1), .val (.int p2), .val (.int p3), .val (.int p4), .val (.int i)] [(.int i), (.ref a1)])) rfl rfl (hb hby d1_12) _ ?_
        show Steps p.tables e below (T0.setTop (mkF m 13 #[.val (.ref a1), .val (.int p2), .val (.int p3), .val (.int p4), .val (.int i)] [(.int (atv cl i))])) _
        refine XS.iloadN X0.here hx rfl (hb hby d1_13) rfl ?_
        exact k9)
    by_cases b107 : (atv cl i).toInt = p4.toInt
    · have pre108 : ∀ t, Steps p.tables e below (T0.setTop (mkF m 23 #[.val (.ref a1), .val (.int p2), .val (.int p3), .val (.int p4), .val (.int i)] [])) t → Steps p.tables e below (T0.setTop (mkF m 3 #[.val (.ref a1), .val (.int p2), .val (.int p3), .val (.int p4), .val (.int i)] [])) t := fun t9 k9 => pre106 t9 (by
          show Steps p.tables e below (T0.setTop (mkF m 14 #[.val (.ref a1), .val (.int p2), .val (.int p3), .val (.int p4), .val (.int i)] [(.int p4), (.int (atv cl i))])) _
          refine XS.icmpYes X0.here hx rfl (pc0 := 14) (pc' := 23) rfl (hb hby d1_14) rfl (own_eq_t rfl rfl b107) (by decide) (by decide) ?_
          exact k9)
      have hq : own_find (atv cl) p4 (k + 1) i = i := if_pos b107
      rw [hq]
      exact ⟨T0, X0, e0, pre108⟩
    · have pre109 : ∀ t, Steps p.tables e below (T0.setTop (mkF m 3 #[.val (.ref a1), .val (.int p2), .val (.int p3), .val (.int p4), .val (.int (i + (1 : Int32)))] [])) t → Steps p.tables e below (T0.setTop (mkF m 3 #[.val (.ref a1), .val (.int p2), .val (.int p3), .val (.int p4), .val (.int i)] [])) t := fun t9 k9 => pre106 t9 (by
          show Steps p.tables e below (T0.setTop (mkF m 14 #[.val (.ref a1), .val (.int p2), .val (.int p3), .val (.int p4), .val (.int i)] [(.int p4), (.int (atv cl i))])) _
          refine XS.icmpNo X0.here hx rfl (hb hby d1_14) rfl (own_eq_f rfl rfl b107) ?_
          show Steps p.tables e below (T0.setTop (mkF m 17 #[.val (.ref a1), .val (.int p2), .val (.int p3), .val (.int p4), .val (.int i)] [])) _
          refine XS.iinc X0.here hx rfl (hb hby d1_17) rfl (l' := #[.val (.ref a1), .val (.int p2), .val (.int p3), .val (.int p4), .val (.int (i + (1 : Int32)))]) rfl ?_
          show Steps p.tables e below (T0.setTop (mkF m 20 #[.val (.ref a1), .val (.int p2), .val (.int p3), .val (.int p4), .val (.int (i + (1 : Int32)))] [])) _
          refine XS.goto X0.here hx rfl (pc0 := 20) (pc' := 3) rfl (hb hby d1_20) (by decide) (by decide) ?_
          exact k9)
      have hq : own_find (atv cl) p4 (k + 1) i = own_find (atv cl) p4 k (i + (1 : Int32)) := if_neg b107
      rw [hq]
      have hj : (i + (1 : Int32)).toInt = i.toInt + 1 := by
        have h1 := c_iadd i 1
        have h2 := rng32 (i + (1 : Int32))
        have h3 : (1 : Int32).toInt = 1 := by decide
        omega
      obtain ⟨T', X', e', st'⟩ := ih (i + (1 : Int32)) T0 (by omega) (by omega) X0 e0
      exact ⟨T', X', e', fun t kk => pre109 t (st' t kk)⟩
theorem pn_1 : plainName "com/example/trank/trank/ByteRuns" = true := by first | (simp [plainName, overriddenIn]; done) | decide +kernel
theorem ef_1 (m : MethodId) (a1 : Addr) (p2 : Int32) (p3 : Int32) (p4 : Int32) : entryFrame m #[(.ref a1), (.int p2), (.int p3), (.int p4)] 5 = mkF m 0 #[.val (.ref a1), .val (.int p2), .val (.int p3), .val (.int p4), .unset] [] := by first | (simp [entryFrame, mkF, argsToLocals, Value.category]; done) | rfl
def Q1 (Z : State) (a1 : Addr) (p2 : Int32) (p3 : Int32) (p4 : Int32) (cl : Cell) (h0 : Heap) (n0 : Nat) (v : Option Value) (h : Heap) (L : List Loc) : Prop := v = some (.int (own_find (atv cl) p4 (p3.toInt - p2.toInt).toNat p2)) ∧ Fr n0 L ∧ h = h0
set_option maxRecDepth 65536 in
set_option maxHeartbeats 40000000 in
theorem rm1 (l : Launch) (Z : State) (a0 : Array Value) (hw : ∀ d ∈ tables_1, d.before a0 Z = true) (ws : List Jvm.Cond) (a1 : Addr) (p2 : Int32) (p3 : Int32) (p4 : Int32) (cl : Cell) (h0 : Heap) (n0 : Nat) (Z0 : n0 ≤ h0.size) (Ar : Arr Z h0 a1 cl .byte) (hall : own_in cl) (hlo : 0 ≤ p2.toInt) (hle : p2.toInt ≤ p3.toInt) (h4 : p3.toInt ≤ 4) :
    MetFree l (⟨"com/example/trank/trank/ByteRuns", "indexOf", "([BIIB)I"⟩ : MethodName) (head1 (Jvm.Cond.code (⟨"com/example/trank/trank/ByteRuns", "indexOf", "([BIIB)I"⟩ : MethodName) prog_2_method_2_code 5 (some .int) :: ws) ({ frames := 0, cells := 0, slots := 0, locals := 0 } : Room)) (fun a U => a = #[(.ref a1), (.int p2), (.int p3), (.int p4)] ∧ Z.Warmed39 U.vm ∧ U.heap = h0) (fun _ _ _ _ _ => True) (fun _ U o U' => ∃ v L, o = .returned v ∧ Q1 Z a1 p2 p3 p4 cl h0 n0 v U'.heap L ∧ FrameEnd U o U' L ({ frames := 0, cells := 0, slots := 0, locals := 0 } : Room).cells ({ frames := 0, cells := 0, slots := 0, locals := 0 } : Room).slots) := by
  refine MetFree.of_bodySF (plainFor_of_name pn_1) hisR ?_
  intro p e s m args below meth c s₁ Bd hml0 hP hK
  obtain ⟨rfl, hZ, hh⟩ := hP
  have hx := Bd.exec
  have hby := Bd.bytes
  have hml : c.maxLocals = 5 := hml0
  have hown : s.vm.findClass "com/example/trank/trank/ByteRuns" = some m.cls := findClass_of_methodNamed Bd.named
  have hnm := (name_of_methodNamed Bd.named Bd.method).1
  have X0 : Stand p l e ({ frames := 0, cells := 0, slots := 0, locals := 0 } : Room) s m #[(.ref a1), (.int p2), (.int p3), (.int p4)] below meth c s₁ [] 0 0 := Stand.of_body Bd
  have e0 : s₁.heap = h0 := by rw [← hh, Bd.state]; rfl
  have N0 := Fr.nil n0
  have pre0 : ∀ t, Steps p.tables e below (s₁.setTop (mkF m 0 #[.val (.ref a1), .val (.int p2), .val (.int p3), .val (.int p4), .unset] [])) t → Steps p.tables e below (s₁.setTop (entryFrame m #[(.ref a1), (.int p2), (.int p3), (.int p4)] 5)) t := fun t k => castTop (ef_1 m a1 p2 p3 p4) k
  obtain ⟨TL, XL, eL, stL⟩ := loop1 a1 p2 p3 p4 cl hx hZ hw hby hml hown Ar hall h4 (p3.toInt - p2.toInt).toNat p2 s₁ hlo (by omega) X0 e0
  have pre110 : ∀ t, Steps p.tables e below (TL.setTop (mkF m 25 #[.val (.ref a1), .val (.int p2), .val (.int p3), .val (.int p4), .val (.int (own_find (atv cl) p4 (p3.toInt - p2.toInt).toNat p2))] [(.int (own_find (atv cl) p4 (p3.toInt - p2.toInt).toNat p2))])) t → Steps p.tables e below (s₁.setTop (entryFrame m #[(.ref a1), (.int p2), (.int p3), (.int p4)] 5)) t := fun t9 k9 => pre0 t9 (by
      show Steps p.tables e below (s₁.setTop (mkF m 0 #[.val (.ref a1), .val (.int p2), .val (.int p3), .val (.int p4), .unset] [])) _
      refine XS.iloadN X0.here hx rfl (hb hby d1_0) rfl ?_
      show Steps p.tables e below (s₁.setTop (mkF m 1 #[.val (.ref a1), .val (.int p2), .val (.int p3), .val (.int p4), .unset] [(.int p2)])) _
      refine XS.istore X0.here hx rfl (hb hby d1_1) rfl (l' := #[.val (.ref a1), .val (.int p2), .val (.int p3), .val (.int p4), .val (.int p2)]) rfl ?_
      show Steps p.tables e below (s₁.setTop (mkF m 3 #[.val (.ref a1), .val (.int p2), .val (.int p3), .val (.int p4), .val (.int p2)] [])) _
      refine stL _ ?_
      show Steps p.tables e below (TL.setTop (mkF m 23 #[.val (.ref a1), .val (.int p2), .val (.int p3), .val (.int p4), .val (.int (own_find (atv cl) p4 (p3.toInt - p2.toInt).toNat p2))] [])) _
      refine XS.iload XL.here hx rfl (hb hby d1_23) rfl ?_
      exact k9)
  obtain ⟨fs, hr, hrun, hended, hW, hsame⟩ := XL.leave (v := some (.int (own_find (atv cl) p4 (p3.toInt - p2.toInt).toNat p2))) (fun h => by rw [Bd.returns] at h; cases h)
  refine ⟨_, _, pre110 _ ?_, hrun, hended, _, _, rfl, ?_, ⟨_, rfl⟩, hW, hsame.mono (by decide) (by decide)⟩
  · show Steps p.tables e below (TL.setTop (mkF m 25 #[.val (.ref a1), .val (.int p2), .val (.int p3), .val (.int p4), .val (.int (own_find (atv cl) p4 (p3.toInt - p2.toInt).toNat p2))] [(.int (own_find (atv cl) p4 (p3.toInt - p2.toInt).toNat p2))])) _
    exact retI XL hx Bd.returns (hb hby d1_25) hr
  · show Q1 Z a1 p2 p3 p4 cl h0 n0 _ TL.heap _
    rw [eL]
    exact ⟨rfl, N0, rfl⟩
theorem d2_0 : decode method_3_code 0 = .ok (.iload_n 1, 1) := by decide +kernel
theorem d2_1 : decode method_3_code 1 = .ok (.ifCond .gt 17, 3) := by decide +kernel
theorem d2_4 : decode method_3_code 4 = .ok (.iconst 0, 1) := by decide +kernel
theorem d2_5 : decode method_3_code 5 = .ok (.iload_n 2, 1) := by decide +kernel
theorem d2_6 : decode method_3_code 6 = .ok (.if_icmp .ge 12, 3) := by decide +kernel
theorem d2_9 : decode method_3_code 9 = .ok (.aload_n 0, 1) := by decide +kernel
theorem d2_10 : decode method_3_code 10 = .ok (.iconst 0, 1) := by decide +kernel
theorem d2_11 : decode method_3_code 11 = .ok (.baload, 1) := by decide +kernel
theorem d2_12 : decode method_3_code 12 = .ok (.iload_n 3, 1) := by decide +kernel
theorem d2_13 : decode method_3_code 13 = .ok (.if_icmp .ne 5, 3) := by decide +kernel
theorem d2_16 : decode method_3_code 16 = .ok (.iconst 0, 1) := by decide +kernel
theorem d2_17 : decode method_3_code 17 = .ok (.ireturn, 1) := by decide +kernel
theorem d2_18 : decode method_3_code 18 = .ok (.iload_n 1, 1) := by decide +kernel
theorem d2_19 : decode method_3_code 19 = .ok (.iconst 1, 1) := by decide +kernel
theorem d2_20 : decode method_3_code 20 = .ok (.if_icmp .gt 17, 3) := by decide +kernel
theorem d2_23 : decode method_3_code 23 = .ok (.iconst 1, 1) := by decide +kernel
theorem d2_24 : decode method_3_code 24 = .ok (.iload_n 2, 1) := by decide +kernel
theorem d2_25 : decode method_3_code 25 = .ok (.if_icmp .ge 12, 3) := by decide +kernel
theorem d2_28 : decode method_3_code 28 = .ok (.aload_n 0, 1) := by decide +kernel
theorem d2_29 : decode method_3_code 29 = .ok (.iconst 1, 1) := by decide +kernel
theorem d2_30 : decode method_3_code 30 = .ok (.baload, 1) := by decide +kernel
theorem d2_31 : decode method_3_code 31 = .ok (.iload_n 3, 1) := by decide +kernel
theorem d2_32 : decode method_3_code 32 = .ok (.if_icmp .ne 5, 3) := by decide +kernel
theorem d2_35 : decode method_3_code 35 = .ok (.iconst 1, 1) := by decide +kernel
theorem d2_36 : decode method_3_code 36 = .ok (.ireturn, 1) := by decide +kernel
theorem d2_37 : decode method_3_code 37 = .ok (.iload_n 1, 1) := by decide +kernel
theorem d2_38 : decode method_3_code 38 = .ok (.iconst 2, 1) := by decide +kernel
theorem d2_39 : decode method_3_code 39 = .ok (.if_icmp .gt 17, 3) := by decide +kernel
theorem d2_42 : decode method_3_code 42 = .ok (.iconst 2, 1) := by decide +kernel
theorem d2_43 : decode method_3_code 43 = .ok (.iload_n 2, 1) := by decide +kernel
theorem d2_44 : decode method_3_code 44 = .ok (.if_icmp .ge 12, 3) := by decide +kernel
theorem d2_47 : decode method_3_code 47 = .ok (.aload_n 0, 1) := by decide +kernel
theorem d2_48 : decode method_3_code 48 = .ok (.iconst 2, 1) := by decide +kernel
theorem d2_49 : decode method_3_code 49 = .ok (.baload, 1) := by decide +kernel
theorem d2_50 : decode method_3_code 50 = .ok (.iload_n 3, 1) := by decide +kernel
theorem d2_51 : decode method_3_code 51 = .ok (.if_icmp .ne 5, 3) := by decide +kernel
theorem d2_54 : decode method_3_code 54 = .ok (.iconst 2, 1) := by decide +kernel
theorem d2_55 : decode method_3_code 55 = .ok (.ireturn, 1) := by decide +kernel
theorem d2_56 : decode method_3_code 56 = .ok (.iload_n 1, 1) := by decide +kernel
theorem d2_57 : decode method_3_code 57 = .ok (.iconst 3, 1) := by decide +kernel
theorem d2_58 : decode method_3_code 58 = .ok (.if_icmp .gt 17, 3) := by decide +kernel
theorem d2_61 : decode method_3_code 61 = .ok (.iconst 3, 1) := by decide +kernel
theorem d2_62 : decode method_3_code 62 = .ok (.iload_n 2, 1) := by decide +kernel
theorem d2_63 : decode method_3_code 63 = .ok (.if_icmp .ge 12, 3) := by decide +kernel
theorem d2_66 : decode method_3_code 66 = .ok (.aload_n 0, 1) := by decide +kernel
theorem d2_67 : decode method_3_code 67 = .ok (.iconst 3, 1) := by decide +kernel
theorem d2_68 : decode method_3_code 68 = .ok (.baload, 1) := by decide +kernel
theorem d2_69 : decode method_3_code 69 = .ok (.iload_n 3, 1) := by decide +kernel
theorem d2_70 : decode method_3_code 70 = .ok (.if_icmp .ne 5, 3) := by decide +kernel
theorem d2_73 : decode method_3_code 73 = .ok (.iconst 3, 1) := by decide +kernel
theorem d2_74 : decode method_3_code 74 = .ok (.ireturn, 1) := by decide +kernel
theorem d2_75 : decode method_3_code 75 = .ok (.iload_n 2, 1) := by decide +kernel
theorem d2_76 : decode method_3_code 76 = .ok (.ireturn, 1) := by decide +kernel
set_option maxRecDepth 65536 in
set_option maxHeartbeats 40000000 in
theorem blk0 {p : Program} {l : Launch} {e : Env} {R : Room} {s : State} {m : MethodId} {args : Array Value} {below : List Frame} {meth : Method} {c : Code} {locs : List Loc} {cells slots : Nat} {Z : State} {a0 : Array Value} {h0 : Heap} {T0 : State} (a1 : Addr) (p2 p3 p4 : Int32) (cl : Cell) (hx : p.tables.exec = Jvm.exec) (hZ : Z.Warmed39 s.vm) (hw : ∀ d ∈ tables_1, d.before a0 Z = true) (hby : c.code = method_3_code) (hml : c.maxLocals = 4) (hown : s.vm.findClass "com/example/trank/trank/ByteRunsIndexOfPinLaw" = some m.cls) (Ar : Arr Z h0 a1 cl .byte) (hall : own_in cl) (X0 : Stand p l e R s m args below meth c T0 locs cells slots) (e0 : T0.heap = h0) (t : State)
    (k1 : own_P (atv cl) p2 p3 p4 0 → Steps p.tables e below (T0.setTop (mkF m 17 #[.val (.ref a1), .val (.int p2), .val (.int p3), .val (.int p4)] [(.int (0 : Int32))])) t) (k2 : ¬ own_P (atv cl) p2 p3 p4 0 → Steps p.tables e below (T0.setTop (mkF m 18 #[.val (.ref a1), .val (.int p2), .val (.int p3), .val (.int p4)] [])) t) : Steps p.tables e below (T0.setTop (mkF m 0 #[.val (.ref a1), .val (.int p2), .val (.int p3), .val (.int p4)] [])) t := by
  have hz : (0 : Int32).toInt = 0 := by decide
  have pre101 : ∀ t, Steps p.tables e below (T0.setTop (mkF m 1 #[.val (.ref a1), .val (.int p2), .val (.int p3), .val (.int p4)] [(.int p2)])) t → Steps p.tables e below (T0.setTop (mkF m 0 #[.val (.ref a1), .val (.int p2), .val (.int p3), .val (.int p4)] [])) t := fun t9 k9 => (by
      show Steps p.tables e below (T0.setTop (mkF m 0 #[.val (.ref a1), .val (.int p2), .val (.int p3), .val (.int p4)] [])) _
      refine XS.iloadN X0.here hx rfl (hb hby d2_0) rfl ?_
      exact k9)
  by_cases b102 : (0 : Int) < p2.toInt
  · have pre103 : ∀ t, Steps p.tables e below (T0.setTop (mkF m 18 #[.val (.ref a1), .val (.int p2), .val (.int p3), .val (.int p4)] [])) t → Steps p.tables e below (T0.setTop (mkF m 0 #[.val (.ref a1), .val (.int p2), .val (.int p3), .val (.int p4)] [])) t := fun t9 k9 => pre101 t9 (by
        show Steps p.tables e below (T0.setTop (mkF m 1 #[.val (.ref a1), .val (.int p2), .val (.int p3), .val (.int p4)] [(.int p2)])) _
        refine XS.ifYes X0.here hx rfl (pc0 := 1) (pc' := 18) rfl (hb hby d2_1) rfl ((if0 _ _).trans (own_gt_t rfl (by decide) b102)) (by decide) (by decide) ?_
        exact k9)
    exact pre103 t (k2 (fun ⟨u1, u2, u3⟩ => by omega))
  · have pre104 : ∀ t, Steps p.tables e below (T0.setTop (mkF m 6 #[.val (.ref a1), .val (.int p2), .val (.int p3), .val (.int p4)] [(.int p3), (.int (0 : Int32))])) t → Steps p.tables e below (T0.setTop (mkF m 0 #[.val (.ref a1), .val (.int p2), .val (.int p3), .val (.int p4)] [])) t := fun t9 k9 => pre101 t9 (by
        show Steps p.tables e below (T0.setTop (mkF m 1 #[.val (.ref a1), .val (.int p2), .val (.int p3), .val (.int p4)] [(.int p2)])) _
        refine XS.ifNo X0.here hx rfl (hb hby d2_1) rfl ((if0 _ _).trans (own_gt_f rfl (by decide) b102)) ?_
        show Steps p.tables e below (T0.setTop (mkF m 4 #[.val (.ref a1), .val (.int p2), .val (.int p3), .val (.int p4)] [])) _
        refine XS.iconst X0.here hx rfl (hb hby d2_4) ?_
        show Steps p.tables e below (T0.setTop (mkF m 5 #[.val (.ref a1), .val (.int p2), .val (.int p3), .val (.int p4)] [(.int (0 : Int32))])) _
        refine XS.iloadN X0.here hx rfl (hb hby d2_5) rfl ?_
        exact k9)
    by_cases b105 : (0 : Int) < p3.toInt
    · have pre106 : ∀ t, Steps p.tables e below (T0.setTop (mkF m 13 #[.val (.ref a1), .val (.int p2), .val (.int p3), .val (.int p4)] [(.int p4), (.int (atv cl (0 : Int32)))])) t → Steps p.tables e below (T0.setTop (mkF m 0 #[.val (.ref a1), .val (.int p2), .val (.int p3), .val (.int p4)] [])) t := fun t9 k9 => pre104 t9 (by
          show Steps p.tables e below (T0.setTop (mkF m 6 #[.val (.ref a1), .val (.int p2), .val (.int p3), .val (.int p4)] [(.int p3), (.int (0 : Int32))])) _
          refine XS.icmpNo X0.here hx rfl (hb hby d2_6) rfl (own_ge_f (by decide) rfl b105) ?_
          show Steps p.tables e below (T0.setTop (mkF m 9 #[.val (.ref a1), .val (.int p2), .val (.int p3), .val (.int p4)] [])) _
          refine XS.aloadN X0.here hx rfl (hb hby d2_9) rfl rfl ?_
          show Steps p.tables e below (T0.setTop (mkF m 10 #[.val (.ref a1), .val (.int p2), .val (.int p3), .val (.int p4)] [(.ref a1)])) _
          refine XS.iconst X0.here hx rfl (hb hby d2_10) ?_
          show Steps p.tables e below (T0.setTop (mkF m 11 #[.val (.ref a1), .val (.int p2), .val (.int p3), .val (.int p4)] [(.int (0 : Int32)), (.ref a1)])) _
          refine X0.baloadBytes hx (j := (0 : Int32)) (v := (.int (atv cl (0 : Int32)))) (by rw [e0]; exact Ar.1) (State.isArrayOf_alike hZ.alike Ar.2.1) Ar.2.2 (hall (0 : Int32) (by decide) (by decide)).1 (hall (0 : Int32) (by decide) (by decide)).2 (g := (mkF m 11 #[.val (.ref a1), .val (.int p2), .val (.int p3), .val (.int p4)] [(.int (0 : Int32)), (.ref a1)])) rfl rfl (hb hby d2_11) _ ?_
          show Steps p.tables e below (T0.setTop (mkF m 12 #[.val (.ref a1), .val (.int p2), .val (.int p3), .val (.int p4)] [(.int (atv cl (0 : Int32)))])) _
          refine XS.iloadN X0.here hx rfl (hb hby d2_12) rfl ?_
          exact k9)
      by_cases b107 : (atv cl (0 : Int32)).toInt = p4.toInt
      · have pre108 : ∀ t, Steps p.tables e below (T0.setTop (mkF m 17 #[.val (.ref a1), .val (.int p2), .val (.int p3), .val (.int p4)] [(.int (0 : Int32))])) t → Steps p.tables e below (T0.setTop (mkF m 0 #[.val (.ref a1), .val (.int p2), .val (.int p3), .val (.int p4)] [])) t := fun t9 k9 => pre106 t9 (by
            show Steps p.tables e below (T0.setTop (mkF m 13 #[.val (.ref a1), .val (.int p2), .val (.int p3), .val (.int p4)] [(.int p4), (.int (atv cl (0 : Int32)))])) _
            refine XS.icmpNo X0.here hx rfl (hb hby d2_13) rfl (own_ne_f rfl rfl b107) ?_
            show Steps p.tables e below (T0.setTop (mkF m 16 #[.val (.ref a1), .val (.int p2), .val (.int p3), .val (.int p4)] [])) _
            refine XS.iconst X0.here hx rfl (hb hby d2_16) ?_
            exact k9)
        exact pre108 t (k1 ⟨by omega, by omega, by first | assumption | omega⟩)
      · have pre109 : ∀ t, Steps p.tables e below (T0.setTop (mkF m 18 #[.val (.ref a1), .val (.int p2), .val (.int p3), .val (.int p4)] [])) t → Steps p.tables e below (T0.setTop (mkF m 0 #[.val (.ref a1), .val (.int p2), .val (.int p3), .val (.int p4)] [])) t := fun t9 k9 => pre106 t9 (by
            show Steps p.tables e below (T0.setTop (mkF m 13 #[.val (.ref a1), .val (.int p2), .val (.int p3), .val (.int p4)] [(.int p4), (.int (atv cl (0 : Int32)))])) _
            refine XS.icmpYes X0.here hx rfl (pc0 := 13) (pc' := 18) rfl (hb hby d2_13) rfl (own_ne_t rfl rfl b107) (by decide) (by decide) ?_
            exact k9)
        exact pre109 t (k2 (fun ⟨u1, u2, u3⟩ => by omega))
    · have pre110 : ∀ t, Steps p.tables e below (T0.setTop (mkF m 18 #[.val (.ref a1), .val (.int p2), .val (.int p3), .val (.int p4)] [])) t → Steps p.tables e below (T0.setTop (mkF m 0 #[.val (.ref a1), .val (.int p2), .val (.int p3), .val (.int p4)] [])) t := fun t9 k9 => pre104 t9 (by
          show Steps p.tables e below (T0.setTop (mkF m 6 #[.val (.ref a1), .val (.int p2), .val (.int p3), .val (.int p4)] [(.int p3), (.int (0 : Int32))])) _
          refine XS.icmpYes X0.here hx rfl (pc0 := 6) (pc' := 18) rfl (hb hby d2_6) rfl (own_ge_t (by decide) rfl b105) (by decide) (by decide) ?_
          exact k9)
      exact pre110 t (k2 (fun ⟨u1, u2, u3⟩ => by omega))
set_option maxRecDepth 65536 in
set_option maxHeartbeats 40000000 in
theorem blk1 {p : Program} {l : Launch} {e : Env} {R : Room} {s : State} {m : MethodId} {args : Array Value} {below : List Frame} {meth : Method} {c : Code} {locs : List Loc} {cells slots : Nat} {Z : State} {a0 : Array Value} {h0 : Heap} {T0 : State} (a1 : Addr) (p2 p3 p4 : Int32) (cl : Cell) (hx : p.tables.exec = Jvm.exec) (hZ : Z.Warmed39 s.vm) (hw : ∀ d ∈ tables_1, d.before a0 Z = true) (hby : c.code = method_3_code) (hml : c.maxLocals = 4) (hown : s.vm.findClass "com/example/trank/trank/ByteRunsIndexOfPinLaw" = some m.cls) (Ar : Arr Z h0 a1 cl .byte) (hall : own_in cl) (X0 : Stand p l e R s m args below meth c T0 locs cells slots) (e0 : T0.heap = h0) (t : State)
    (k1 : own_P (atv cl) p2 p3 p4 1 → Steps p.tables e below (T0.setTop (mkF m 36 #[.val (.ref a1), .val (.int p2), .val (.int p3), .val (.int p4)] [(.int (1 : Int32))])) t) (k2 : ¬ own_P (atv cl) p2 p3 p4 1 → Steps p.tables e below (T0.setTop (mkF m 37 #[.val (.ref a1), .val (.int p2), .val (.int p3), .val (.int p4)] [])) t) : Steps p.tables e below (T0.setTop (mkF m 18 #[.val (.ref a1), .val (.int p2), .val (.int p3), .val (.int p4)] [])) t := by
  have hz : (1 : Int32).toInt = 1 := by decide
  have pre111 : ∀ t, Steps p.tables e below (T0.setTop (mkF m 20 #[.val (.ref a1), .val (.int p2), .val (.int p3), .val (.int p4)] [(.int (1 : Int32)), (.int p2)])) t → Steps p.tables e below (T0.setTop (mkF m 18 #[.val (.ref a1), .val (.int p2), .val (.int p3), .val (.int p4)] [])) t := fun t9 k9 => (by
      show Steps p.tables e below (T0.setTop (mkF m 18 #[.val (.ref a1), .val (.int p2), .val (.int p3), .val (.int p4)] [])) _
      refine XS.iloadN X0.here hx rfl (hb hby d2_18) rfl ?_
      show Steps p.tables e below (T0.setTop (mkF m 19 #[.val (.ref a1), .val (.int p2), .val (.int p3), .val (.int p4)] [(.int p2)])) _
      refine XS.iconst X0.here hx rfl (hb hby d2_19) ?_
      exact k9)
  by_cases b112 : (1 : Int) < p2.toInt
  · have pre113 : ∀ t, Steps p.tables e below (T0.setTop (mkF m 37 #[.val (.ref a1), .val (.int p2), .val (.int p3), .val (.int p4)] [])) t → Steps p.tables e below (T0.setTop (mkF m 18 #[.val (.ref a1), .val (.int p2), .val (.int p3), .val (.int p4)] [])) t := fun t9 k9 => pre111 t9 (by
        show Steps p.tables e below (T0.setTop (mkF m 20 #[.val (.ref a1), .val (.int p2), .val (.int p3), .val (.int p4)] [(.int (1 : Int32)), (.int p2)])) _
        refine XS.icmpYes X0.here hx rfl (pc0 := 20) (pc' := 37) rfl (hb hby d2_20) rfl (own_gt_t rfl (by decide) b112) (by decide) (by decide) ?_
        exact k9)
    exact pre113 t (k2 (fun ⟨u1, u2, u3⟩ => by omega))
  · have pre114 : ∀ t, Steps p.tables e below (T0.setTop (mkF m 25 #[.val (.ref a1), .val (.int p2), .val (.int p3), .val (.int p4)] [(.int p3), (.int (1 : Int32))])) t → Steps p.tables e below (T0.setTop (mkF m 18 #[.val (.ref a1), .val (.int p2), .val (.int p3), .val (.int p4)] [])) t := fun t9 k9 => pre111 t9 (by
        show Steps p.tables e below (T0.setTop (mkF m 20 #[.val (.ref a1), .val (.int p2), .val (.int p3), .val (.int p4)] [(.int (1 : Int32)), (.int p2)])) _
        refine XS.icmpNo X0.here hx rfl (hb hby d2_20) rfl (own_gt_f rfl (by decide) b112) ?_
        show Steps p.tables e below (T0.setTop (mkF m 23 #[.val (.ref a1), .val (.int p2), .val (.int p3), .val (.int p4)] [])) _
        refine XS.iconst X0.here hx rfl (hb hby d2_23) ?_
        show Steps p.tables e below (T0.setTop (mkF m 24 #[.val (.ref a1), .val (.int p2), .val (.int p3), .val (.int p4)] [(.int (1 : Int32))])) _
        refine XS.iloadN X0.here hx rfl (hb hby d2_24) rfl ?_
        exact k9)
    by_cases b115 : (1 : Int) < p3.toInt
    · have pre116 : ∀ t, Steps p.tables e below (T0.setTop (mkF m 32 #[.val (.ref a1), .val (.int p2), .val (.int p3), .val (.int p4)] [(.int p4), (.int (atv cl (1 : Int32)))])) t → Steps p.tables e below (T0.setTop (mkF m 18 #[.val (.ref a1), .val (.int p2), .val (.int p3), .val (.int p4)] [])) t := fun t9 k9 => pre114 t9 (by
          show Steps p.tables e below (T0.setTop (mkF m 25 #[.val (.ref a1), .val (.int p2), .val (.int p3), .val (.int p4)] [(.int p3), (.int (1 : Int32))])) _
          refine XS.icmpNo X0.here hx rfl (hb hby d2_25) rfl (own_ge_f (by decide) rfl b115) ?_
          show Steps p.tables e below (T0.setTop (mkF m 28 #[.val (.ref a1), .val (.int p2), .val (.int p3), .val (.int p4)] [])) _
          refine XS.aloadN X0.here hx rfl (hb hby d2_28) rfl rfl ?_
          show Steps p.tables e below (T0.setTop (mkF m 29 #[.val (.ref a1), .val (.int p2), .val (.int p3), .val (.int p4)] [(.ref a1)])) _
          refine XS.iconst X0.here hx rfl (hb hby d2_29) ?_
          show Steps p.tables e below (T0.setTop (mkF m 30 #[.val (.ref a1), .val (.int p2), .val (.int p3), .val (.int p4)] [(.int (1 : Int32)), (.ref a1)])) _
          refine X0.baloadBytes hx (j := (1 : Int32)) (v := (.int (atv cl (1 : Int32)))) (by rw [e0]; exact Ar.1) (State.isArrayOf_alike hZ.alike Ar.2.1) Ar.2.2 (hall (1 : Int32) (by decide) (by decide)).1 (hall (1 : Int32) (by decide) (by decide)).2 (g := (mkF m 30 #[.val (.ref a1), .val (.int p2), .val (.int p3), .val (.int p4)] [(.int (1 : Int32)), (.ref a1)])) rfl rfl (hb hby d2_30) _ ?_
          show Steps p.tables e below (T0.setTop (mkF m 31 #[.val (.ref a1), .val (.int p2), .val (.int p3), .val (.int p4)] [(.int (atv cl (1 : Int32)))])) _
          refine XS.iloadN X0.here hx rfl (hb hby d2_31) rfl ?_
          exact k9)
      by_cases b117 : (atv cl (1 : Int32)).toInt = p4.toInt
      · have pre118 : ∀ t, Steps p.tables e below (T0.setTop (mkF m 36 #[.val (.ref a1), .val (.int p2), .val (.int p3), .val (.int p4)] [(.int (1 : Int32))])) t → Steps p.tables e below (T0.setTop (mkF m 18 #[.val (.ref a1), .val (.int p2), .val (.int p3), .val (.int p4)] [])) t := fun t9 k9 => pre116 t9 (by
            show Steps p.tables e below (T0.setTop (mkF m 32 #[.val (.ref a1), .val (.int p2), .val (.int p3), .val (.int p4)] [(.int p4), (.int (atv cl (1 : Int32)))])) _
            refine XS.icmpNo X0.here hx rfl (hb hby d2_32) rfl (own_ne_f rfl rfl b117) ?_
            show Steps p.tables e below (T0.setTop (mkF m 35 #[.val (.ref a1), .val (.int p2), .val (.int p3), .val (.int p4)] [])) _
            refine XS.iconst X0.here hx rfl (hb hby d2_35) ?_
            exact k9)
        exact pre118 t (k1 ⟨by omega, by omega, by first | assumption | omega⟩)
      · have pre119 : ∀ t, Steps p.tables e below (T0.setTop (mkF m 37 #[.val (.ref a1), .val (.int p2), .val (.int p3), .val (.int p4)] [])) t → Steps p.tables e below (T0.setTop (mkF m 18 #[.val (.ref a1), .val (.int p2), .val (.int p3), .val (.int p4)] [])) t := fun t9 k9 => pre116 t9 (by
            show Steps p.tables e below (T0.setTop (mkF m 32 #[.val (.ref a1), .val (.int p2), .val (.int p3), .val (.int p4)] [(.int p4), (.int (atv cl (1 : Int32)))])) _
            refine XS.icmpYes X0.here hx rfl (pc0 := 32) (pc' := 37) rfl (hb hby d2_32) rfl (own_ne_t rfl rfl b117) (by decide) (by decide) ?_
            exact k9)
        exact pre119 t (k2 (fun ⟨u1, u2, u3⟩ => by omega))
    · have pre120 : ∀ t, Steps p.tables e below (T0.setTop (mkF m 37 #[.val (.ref a1), .val (.int p2), .val (.int p3), .val (.int p4)] [])) t → Steps p.tables e below (T0.setTop (mkF m 18 #[.val (.ref a1), .val (.int p2), .val (.int p3), .val (.int p4)] [])) t := fun t9 k9 => pre114 t9 (by
          show Steps p.tables e below (T0.setTop (mkF m 25 #[.val (.ref a1), .val (.int p2), .val (.int p3), .val (.int p4)] [(.int p3), (.int (1 : Int32))])) _
          refine XS.icmpYes X0.here hx rfl (pc0 := 25) (pc' := 37) rfl (hb hby d2_25) rfl (own_ge_t (by decide) rfl b115) (by decide) (by decide) ?_
          exact k9)
      exact pre120 t (k2 (fun ⟨u1, u2, u3⟩ => by omega))
set_option maxRecDepth 65536 in
set_option maxHeartbeats 40000000 in
theorem blk2 {p : Program} {l : Launch} {e : Env} {R : Room} {s : State} {m : MethodId} {args : Array Value} {below : List Frame} {meth : Method} {c : Code} {locs : List Loc} {cells slots : Nat} {Z : State} {a0 : Array Value} {h0 : Heap} {T0 : State} (a1 : Addr) (p2 p3 p4 : Int32) (cl : Cell) (hx : p.tables.exec = Jvm.exec) (hZ : Z.Warmed39 s.vm) (hw : ∀ d ∈ tables_1, d.before a0 Z = true) (hby : c.code = method_3_code) (hml : c.maxLocals = 4) (hown : s.vm.findClass "com/example/trank/trank/ByteRunsIndexOfPinLaw" = some m.cls) (Ar : Arr Z h0 a1 cl .byte) (hall : own_in cl) (X0 : Stand p l e R s m args below meth c T0 locs cells slots) (e0 : T0.heap = h0) (t : State)
    (k1 : own_P (atv cl) p2 p3 p4 2 → Steps p.tables e below (T0.setTop (mkF m 55 #[.val (.ref a1), .val (.int p2), .val (.int p3), .val (.int p4)] [(.int (2 : Int32))])) t) (k2 : ¬ own_P (atv cl) p2 p3 p4 2 → Steps p.tables e below (T0.setTop (mkF m 56 #[.val (.ref a1), .val (.int p2), .val (.int p3), .val (.int p4)] [])) t) : Steps p.tables e below (T0.setTop (mkF m 37 #[.val (.ref a1), .val (.int p2), .val (.int p3), .val (.int p4)] [])) t := by
  have hz : (2 : Int32).toInt = 2 := by decide
  have pre121 : ∀ t, Steps p.tables e below (T0.setTop (mkF m 39 #[.val (.ref a1), .val (.int p2), .val (.int p3), .val (.int p4)] [(.int (2 : Int32)), (.int p2)])) t → Steps p.tables e below (T0.setTop (mkF m 37 #[.val (.ref a1), .val (.int p2), .val (.int p3), .val (.int p4)] [])) t := fun t9 k9 => (by
      show Steps p.tables e below (T0.setTop (mkF m 37 #[.val (.ref a1), .val (.int p2), .val (.int p3), .val (.int p4)] [])) _
      refine XS.iloadN X0.here hx rfl (hb hby d2_37) rfl ?_
      show Steps p.tables e below (T0.setTop (mkF m 38 #[.val (.ref a1), .val (.int p2), .val (.int p3), .val (.int p4)] [(.int p2)])) _
      refine XS.iconst X0.here hx rfl (hb hby d2_38) ?_
      exact k9)
  by_cases b122 : (2 : Int) < p2.toInt
  · have pre123 : ∀ t, Steps p.tables e below (T0.setTop (mkF m 56 #[.val (.ref a1), .val (.int p2), .val (.int p3), .val (.int p4)] [])) t → Steps p.tables e below (T0.setTop (mkF m 37 #[.val (.ref a1), .val (.int p2), .val (.int p3), .val (.int p4)] [])) t := fun t9 k9 => pre121 t9 (by
        show Steps p.tables e below (T0.setTop (mkF m 39 #[.val (.ref a1), .val (.int p2), .val (.int p3), .val (.int p4)] [(.int (2 : Int32)), (.int p2)])) _
        refine XS.icmpYes X0.here hx rfl (pc0 := 39) (pc' := 56) rfl (hb hby d2_39) rfl (own_gt_t rfl (by decide) b122) (by decide) (by decide) ?_
        exact k9)
    exact pre123 t (k2 (fun ⟨u1, u2, u3⟩ => by omega))
  · have pre124 : ∀ t, Steps p.tables e below (T0.setTop (mkF m 44 #[.val (.ref a1), .val (.int p2), .val (.int p3), .val (.int p4)] [(.int p3), (.int (2 : Int32))])) t → Steps p.tables e below (T0.setTop (mkF m 37 #[.val (.ref a1), .val (.int p2), .val (.int p3), .val (.int p4)] [])) t := fun t9 k9 => pre121 t9 (by
        show Steps p.tables e below (T0.setTop (mkF m 39 #[.val (.ref a1), .val (.int p2), .val (.int p3), .val (.int p4)] [(.int (2 : Int32)), (.int p2)])) _
        refine XS.icmpNo X0.here hx rfl (hb hby d2_39) rfl (own_gt_f rfl (by decide) b122) ?_
        show Steps p.tables e below (T0.setTop (mkF m 42 #[.val (.ref a1), .val (.int p2), .val (.int p3), .val (.int p4)] [])) _
        refine XS.iconst X0.here hx rfl (hb hby d2_42) ?_
        show Steps p.tables e below (T0.setTop (mkF m 43 #[.val (.ref a1), .val (.int p2), .val (.int p3), .val (.int p4)] [(.int (2 : Int32))])) _
        refine XS.iloadN X0.here hx rfl (hb hby d2_43) rfl ?_
        exact k9)
    by_cases b125 : (2 : Int) < p3.toInt
    · have pre126 : ∀ t, Steps p.tables e below (T0.setTop (mkF m 51 #[.val (.ref a1), .val (.int p2), .val (.int p3), .val (.int p4)] [(.int p4), (.int (atv cl (2 : Int32)))])) t → Steps p.tables e below (T0.setTop (mkF m 37 #[.val (.ref a1), .val (.int p2), .val (.int p3), .val (.int p4)] [])) t := fun t9 k9 => pre124 t9 (by
          show Steps p.tables e below (T0.setTop (mkF m 44 #[.val (.ref a1), .val (.int p2), .val (.int p3), .val (.int p4)] [(.int p3), (.int (2 : Int32))])) _
          refine XS.icmpNo X0.here hx rfl (hb hby d2_44) rfl (own_ge_f (by decide) rfl b125) ?_
          show Steps p.tables e below (T0.setTop (mkF m 47 #[.val (.ref a1), .val (.int p2), .val (.int p3), .val (.int p4)] [])) _
          refine XS.aloadN X0.here hx rfl (hb hby d2_47) rfl rfl ?_
          show Steps p.tables e below (T0.setTop (mkF m 48 #[.val (.ref a1), .val (.int p2), .val (.int p3), .val (.int p4)] [(.ref a1)])) _
          refine XS.iconst X0.here hx rfl (hb hby d2_48) ?_
          show Steps p.tables e below (T0.setTop (mkF m 49 #[.val (.ref a1), .val (.int p2), .val (.int p3), .val (.int p4)] [(.int (2 : Int32)), (.ref a1)])) _
          refine X0.baloadBytes hx (j := (2 : Int32)) (v := (.int (atv cl (2 : Int32)))) (by rw [e0]; exact Ar.1) (State.isArrayOf_alike hZ.alike Ar.2.1) Ar.2.2 (hall (2 : Int32) (by decide) (by decide)).1 (hall (2 : Int32) (by decide) (by decide)).2 (g := (mkF m 49 #[.val (.ref a1), .val (.int p2), .val (.int p3), .val (.int p4)] [(.int (2 : Int32)), (.ref a1)])) rfl rfl (hb hby d2_49) _ ?_
          show Steps p.tables e below (T0.setTop (mkF m 50 #[.val (.ref a1), .val (.int p2), .val (.int p3), .val (.int p4)] [(.int (atv cl (2 : Int32)))])) _
          refine XS.iloadN X0.here hx rfl (hb hby d2_50) rfl ?_
          exact k9)
      by_cases b127 : (atv cl (2 : Int32)).toInt = p4.toInt
      · have pre128 : ∀ t, Steps p.tables e below (T0.setTop (mkF m 55 #[.val (.ref a1), .val (.int p2), .val (.int p3), .val (.int p4)] [(.int (2 : Int32))])) t → Steps p.tables e below (T0.setTop (mkF m 37 #[.val (.ref a1), .val (.int p2), .val (.int p3), .val (.int p4)] [])) t := fun t9 k9 => pre126 t9 (by
            show Steps p.tables e below (T0.setTop (mkF m 51 #[.val (.ref a1), .val (.int p2), .val (.int p3), .val (.int p4)] [(.int p4), (.int (atv cl (2 : Int32)))])) _
            refine XS.icmpNo X0.here hx rfl (hb hby d2_51) rfl (own_ne_f rfl rfl b127) ?_
            show Steps p.tables e below (T0.setTop (mkF m 54 #[.val (.ref a1), .val (.int p2), .val (.int p3), .val (.int p4)] [])) _
            refine XS.iconst X0.here hx rfl (hb hby d2_54) ?_
            exact k9)
        exact pre128 t (k1 ⟨by omega, by omega, by first | assumption | omega⟩)
      · have pre129 : ∀ t, Steps p.tables e below (T0.setTop (mkF m 56 #[.val (.ref a1), .val (.int p2), .val (.int p3), .val (.int p4)] [])) t → Steps p.tables e below (T0.setTop (mkF m 37 #[.val (.ref a1), .val (.int p2), .val (.int p3), .val (.int p4)] [])) t := fun t9 k9 => pre126 t9 (by
            show Steps p.tables e below (T0.setTop (mkF m 51 #[.val (.ref a1), .val (.int p2), .val (.int p3), .val (.int p4)] [(.int p4), (.int (atv cl (2 : Int32)))])) _
            refine XS.icmpYes X0.here hx rfl (pc0 := 51) (pc' := 56) rfl (hb hby d2_51) rfl (own_ne_t rfl rfl b127) (by decide) (by decide) ?_
            exact k9)
        exact pre129 t (k2 (fun ⟨u1, u2, u3⟩ => by omega))
    · have pre130 : ∀ t, Steps p.tables e below (T0.setTop (mkF m 56 #[.val (.ref a1), .val (.int p2), .val (.int p3), .val (.int p4)] [])) t → Steps p.tables e below (T0.setTop (mkF m 37 #[.val (.ref a1), .val (.int p2), .val (.int p3), .val (.int p4)] [])) t := fun t9 k9 => pre124 t9 (by
          show Steps p.tables e below (T0.setTop (mkF m 44 #[.val (.ref a1), .val (.int p2), .val (.int p3), .val (.int p4)] [(.int p3), (.int (2 : Int32))])) _
          refine XS.icmpYes X0.here hx rfl (pc0 := 44) (pc' := 56) rfl (hb hby d2_44) rfl (own_ge_t (by decide) rfl b125) (by decide) (by decide) ?_
          exact k9)
      exact pre130 t (k2 (fun ⟨u1, u2, u3⟩ => by omega))
set_option maxRecDepth 65536 in
set_option maxHeartbeats 40000000 in
theorem blk3 {p : Program} {l : Launch} {e : Env} {R : Room} {s : State} {m : MethodId} {args : Array Value} {below : List Frame} {meth : Method} {c : Code} {locs : List Loc} {cells slots : Nat} {Z : State} {a0 : Array Value} {h0 : Heap} {T0 : State} (a1 : Addr) (p2 p3 p4 : Int32) (cl : Cell) (hx : p.tables.exec = Jvm.exec) (hZ : Z.Warmed39 s.vm) (hw : ∀ d ∈ tables_1, d.before a0 Z = true) (hby : c.code = method_3_code) (hml : c.maxLocals = 4) (hown : s.vm.findClass "com/example/trank/trank/ByteRunsIndexOfPinLaw" = some m.cls) (Ar : Arr Z h0 a1 cl .byte) (hall : own_in cl) (X0 : Stand p l e R s m args below meth c T0 locs cells slots) (e0 : T0.heap = h0) (t : State)
    (k1 : own_P (atv cl) p2 p3 p4 3 → Steps p.tables e below (T0.setTop (mkF m 74 #[.val (.ref a1), .val (.int p2), .val (.int p3), .val (.int p4)] [(.int (3 : Int32))])) t) (k2 : ¬ own_P (atv cl) p2 p3 p4 3 → Steps p.tables e below (T0.setTop (mkF m 75 #[.val (.ref a1), .val (.int p2), .val (.int p3), .val (.int p4)] [])) t) : Steps p.tables e below (T0.setTop (mkF m 56 #[.val (.ref a1), .val (.int p2), .val (.int p3), .val (.int p4)] [])) t := by
  have hz : (3 : Int32).toInt = 3 := by decide
  have pre131 : ∀ t, Steps p.tables e below (T0.setTop (mkF m 58 #[.val (.ref a1), .val (.int p2), .val (.int p3), .val (.int p4)] [(.int (3 : Int32)), (.int p2)])) t → Steps p.tables e below (T0.setTop (mkF m 56 #[.val (.ref a1), .val (.int p2), .val (.int p3), .val (.int p4)] [])) t := fun t9 k9 => (by
      show Steps p.tables e below (T0.setTop (mkF m 56 #[.val (.ref a1), .val (.int p2), .val (.int p3), .val (.int p4)] [])) _
      refine XS.iloadN X0.here hx rfl (hb hby d2_56) rfl ?_
      show Steps p.tables e below (T0.setTop (mkF m 57 #[.val (.ref a1), .val (.int p2), .val (.int p3), .val (.int p4)] [(.int p2)])) _
      refine XS.iconst X0.here hx rfl (hb hby d2_57) ?_
      exact k9)
  by_cases b132 : (3 : Int) < p2.toInt
  · have pre133 : ∀ t, Steps p.tables e below (T0.setTop (mkF m 75 #[.val (.ref a1), .val (.int p2), .val (.int p3), .val (.int p4)] [])) t → Steps p.tables e below (T0.setTop (mkF m 56 #[.val (.ref a1), .val (.int p2), .val (.int p3), .val (.int p4)] [])) t := fun t9 k9 => pre131 t9 (by
        show Steps p.tables e below (T0.setTop (mkF m 58 #[.val (.ref a1), .val (.int p2), .val (.int p3), .val (.int p4)] [(.int (3 : Int32)), (.int p2)])) _
        refine XS.icmpYes X0.here hx rfl (pc0 := 58) (pc' := 75) rfl (hb hby d2_58) rfl (own_gt_t rfl (by decide) b132) (by decide) (by decide) ?_
        exact k9)
    exact pre133 t (k2 (fun ⟨u1, u2, u3⟩ => by omega))
  · have pre134 : ∀ t, Steps p.tables e below (T0.setTop (mkF m 63 #[.val (.ref a1), .val (.int p2), .val (.int p3), .val (.int p4)] [(.int p3), (.int (3 : Int32))])) t → Steps p.tables e below (T0.setTop (mkF m 56 #[.val (.ref a1), .val (.int p2), .val (.int p3), .val (.int p4)] [])) t := fun t9 k9 => pre131 t9 (by
        show Steps p.tables e below (T0.setTop (mkF m 58 #[.val (.ref a1), .val (.int p2), .val (.int p3), .val (.int p4)] [(.int (3 : Int32)), (.int p2)])) _
        refine XS.icmpNo X0.here hx rfl (hb hby d2_58) rfl (own_gt_f rfl (by decide) b132) ?_
        show Steps p.tables e below (T0.setTop (mkF m 61 #[.val (.ref a1), .val (.int p2), .val (.int p3), .val (.int p4)] [])) _
        refine XS.iconst X0.here hx rfl (hb hby d2_61) ?_
        show Steps p.tables e below (T0.setTop (mkF m 62 #[.val (.ref a1), .val (.int p2), .val (.int p3), .val (.int p4)] [(.int (3 : Int32))])) _
        refine XS.iloadN X0.here hx rfl (hb hby d2_62) rfl ?_
        exact k9)
    by_cases b135 : (3 : Int) < p3.toInt
    · have pre136 : ∀ t, Steps p.tables e below (T0.setTop (mkF m 70 #[.val (.ref a1), .val (.int p2), .val (.int p3), .val (.int p4)] [(.int p4), (.int (atv cl (3 : Int32)))])) t → Steps p.tables e below (T0.setTop (mkF m 56 #[.val (.ref a1), .val (.int p2), .val (.int p3), .val (.int p4)] [])) t := fun t9 k9 => pre134 t9 (by
          show Steps p.tables e below (T0.setTop (mkF m 63 #[.val (.ref a1), .val (.int p2), .val (.int p3), .val (.int p4)] [(.int p3), (.int (3 : Int32))])) _
          refine XS.icmpNo X0.here hx rfl (hb hby d2_63) rfl (own_ge_f (by decide) rfl b135) ?_
          show Steps p.tables e below (T0.setTop (mkF m 66 #[.val (.ref a1), .val (.int p2), .val (.int p3), .val (.int p4)] [])) _
          refine XS.aloadN X0.here hx rfl (hb hby d2_66) rfl rfl ?_
          show Steps p.tables e below (T0.setTop (mkF m 67 #[.val (.ref a1), .val (.int p2), .val (.int p3), .val (.int p4)] [(.ref a1)])) _
          refine XS.iconst X0.here hx rfl (hb hby d2_67) ?_
          show Steps p.tables e below (T0.setTop (mkF m 68 #[.val (.ref a1), .val (.int p2), .val (.int p3), .val (.int p4)] [(.int (3 : Int32)), (.ref a1)])) _
          refine X0.baloadBytes hx (j := (3 : Int32)) (v := (.int (atv cl (3 : Int32)))) (by rw [e0]; exact Ar.1) (State.isArrayOf_alike hZ.alike Ar.2.1) Ar.2.2 (hall (3 : Int32) (by decide) (by decide)).1 (hall (3 : Int32) (by decide) (by decide)).2 (g := (mkF m 68 #[.val (.ref a1), .val (.int p2), .val (.int p3), .val (.int p4)] [(.int (3 : Int32)), (.ref a1)])) rfl rfl (hb hby d2_68) _ ?_
          show Steps p.tables e below (T0.setTop (mkF m 69 #[.val (.ref a1), .val (.int p2), .val (.int p3), .val (.int p4)] [(.int (atv cl (3 : Int32)))])) _
          refine XS.iloadN X0.here hx rfl (hb hby d2_69) rfl ?_
          exact k9)
      by_cases b137 : (atv cl (3 : Int32)).toInt = p4.toInt
      · have pre138 : ∀ t, Steps p.tables e below (T0.setTop (mkF m 74 #[.val (.ref a1), .val (.int p2), .val (.int p3), .val (.int p4)] [(.int (3 : Int32))])) t → Steps p.tables e below (T0.setTop (mkF m 56 #[.val (.ref a1), .val (.int p2), .val (.int p3), .val (.int p4)] [])) t := fun t9 k9 => pre136 t9 (by
            show Steps p.tables e below (T0.setTop (mkF m 70 #[.val (.ref a1), .val (.int p2), .val (.int p3), .val (.int p4)] [(.int p4), (.int (atv cl (3 : Int32)))])) _
            refine XS.icmpNo X0.here hx rfl (hb hby d2_70) rfl (own_ne_f rfl rfl b137) ?_
            show Steps p.tables e below (T0.setTop (mkF m 73 #[.val (.ref a1), .val (.int p2), .val (.int p3), .val (.int p4)] [])) _
            refine XS.iconst X0.here hx rfl (hb hby d2_73) ?_
            exact k9)
        exact pre138 t (k1 ⟨by omega, by omega, by first | assumption | omega⟩)
      · have pre139 : ∀ t, Steps p.tables e below (T0.setTop (mkF m 75 #[.val (.ref a1), .val (.int p2), .val (.int p3), .val (.int p4)] [])) t → Steps p.tables e below (T0.setTop (mkF m 56 #[.val (.ref a1), .val (.int p2), .val (.int p3), .val (.int p4)] [])) t := fun t9 k9 => pre136 t9 (by
            show Steps p.tables e below (T0.setTop (mkF m 70 #[.val (.ref a1), .val (.int p2), .val (.int p3), .val (.int p4)] [(.int p4), (.int (atv cl (3 : Int32)))])) _
            refine XS.icmpYes X0.here hx rfl (pc0 := 70) (pc' := 75) rfl (hb hby d2_70) rfl (own_ne_t rfl rfl b137) (by decide) (by decide) ?_
            exact k9)
        exact pre139 t (k2 (fun ⟨u1, u2, u3⟩ => by omega))
    · have pre140 : ∀ t, Steps p.tables e below (T0.setTop (mkF m 75 #[.val (.ref a1), .val (.int p2), .val (.int p3), .val (.int p4)] [])) t → Steps p.tables e below (T0.setTop (mkF m 56 #[.val (.ref a1), .val (.int p2), .val (.int p3), .val (.int p4)] [])) t := fun t9 k9 => pre134 t9 (by
          show Steps p.tables e below (T0.setTop (mkF m 63 #[.val (.ref a1), .val (.int p2), .val (.int p3), .val (.int p4)] [(.int p3), (.int (3 : Int32))])) _
          refine XS.icmpYes X0.here hx rfl (pc0 := 63) (pc' := 75) rfl (hb hby d2_63) rfl (own_ge_t (by decide) rfl b135) (by decide) (by decide) ?_
          exact k9)
      exact pre140 t (k2 (fun ⟨u1, u2, u3⟩ => by omega))
theorem pn_2 : plainName "com/example/trank/trank/ByteRunsIndexOfPinLaw" = true := by first | (simp [plainName, overriddenIn]; done) | decide +kernel
theorem ef_2 (m : MethodId) (a1 : Addr) (p2 : Int32) (p3 : Int32) (p4 : Int32) : entryFrame m #[(.ref a1), (.int p2), (.int p3), (.int p4)] 4 = mkF m 0 #[.val (.ref a1), .val (.int p2), .val (.int p3), .val (.int p4)] [] := by first | (simp [entryFrame, mkF, argsToLocals, Value.category]; done) | rfl
def Q2 (Z : State) (a1 : Addr) (p2 : Int32) (p3 : Int32) (p4 : Int32) (cl : Cell) (h0 : Heap) (n0 : Nat) (v : Option Value) (h : Heap) (L : List Loc) : Prop := v = some (.int (own_exp (atv cl) p2 p3 p4)) ∧ Fr n0 L ∧ h = h0
set_option maxRecDepth 65536 in
set_option maxHeartbeats 40000000 in
theorem rm2 (l : Launch) (Z : State) (a0 : Array Value) (hw : ∀ d ∈ tables_1, d.before a0 Z = true) (ws : List Jvm.Cond) (a1 : Addr) (p2 : Int32) (p3 : Int32) (p4 : Int32) (cl : Cell) (h0 : Heap) (n0 : Nat) (Z0 : n0 ≤ h0.size) (Ar : Arr Z h0 a1 cl .byte) (hall : own_in cl) :
    MetFree l (⟨"com/example/trank/trank/ByteRunsIndexOfPinLaw", "expected", "([BIIB)I"⟩ : MethodName) (head1 (Jvm.Cond.code (⟨"com/example/trank/trank/ByteRunsIndexOfPinLaw", "expected", "([BIIB)I"⟩ : MethodName) method_3_code 4 (some .int) :: ws) ({ frames := 0, cells := 0, slots := 0, locals := 0 } : Room)) (fun a U => a = #[(.ref a1), (.int p2), (.int p3), (.int p4)] ∧ Z.Warmed39 U.vm ∧ U.heap = h0) (fun _ _ _ _ _ => True) (fun _ U o U' => ∃ v L, o = .returned v ∧ Q2 Z a1 p2 p3 p4 cl h0 n0 v U'.heap L ∧ FrameEnd U o U' L ({ frames := 0, cells := 0, slots := 0, locals := 0 } : Room).cells ({ frames := 0, cells := 0, slots := 0, locals := 0 } : Room).slots) := by
  refine MetFree.of_bodySF (plainFor_of_name pn_2) hisR ?_
  intro p e s m args below meth c s₁ Bd hml0 hP hK
  obtain ⟨rfl, hZ, hh⟩ := hP
  have hx := Bd.exec
  have hby := Bd.bytes
  have hml : c.maxLocals = 4 := hml0
  have hown : s.vm.findClass "com/example/trank/trank/ByteRunsIndexOfPinLaw" = some m.cls := findClass_of_methodNamed Bd.named
  have hnm := (name_of_methodNamed Bd.named Bd.method).1
  have X0 : Stand p l e ({ frames := 0, cells := 0, slots := 0, locals := 0 } : Room) s m #[(.ref a1), (.int p2), (.int p3), (.int p4)] below meth c s₁ [] 0 0 := Stand.of_body Bd
  have e0 : s₁.heap = h0 := by rw [← hh, Bd.state]; rfl
  have N0 := Fr.nil n0
  have pre0 : ∀ t, Steps p.tables e below (s₁.setTop (mkF m 0 #[.val (.ref a1), .val (.int p2), .val (.int p3), .val (.int p4)] [])) t → Steps p.tables e below (s₁.setTop (entryFrame m #[(.ref a1), (.int p2), (.int p3), (.int p4)] 4)) t := fun t k => castTop (ef_2 m a1 p2 p3 p4) k
  by_cases c0 : own_P (atv cl) p2 p3 p4 0
  · have pre141 : ∀ t, Steps p.tables e below (s₁.setTop (mkF m 17 #[.val (.ref a1), .val (.int p2), .val (.int p3), .val (.int p4)] [(.int (0 : Int32))])) t → Steps p.tables e below (s₁.setTop (entryFrame m #[(.ref a1), (.int p2), (.int p3), (.int p4)] 4)) t := fun t k => pre0 t (blk0 a1 p2 p3 p4 cl hx hZ hw hby hml hown Ar hall X0 e0 t (fun _ => k) (fun q => absurd c0 q))
    have hv : own_exp (atv cl) p2 p3 p4 = (0 : Int32) := by unfold own_exp; rw [if_pos c0]
    obtain ⟨fs, hr, hrun, hended, hW, hsame⟩ := X0.leave (v := some (.int (0 : Int32))) (fun h => by rw [Bd.returns] at h; cases h)
    refine ⟨_, _, pre141 _ ?_, hrun, hended, _, _, rfl, ?_, ⟨_, rfl⟩, hW, hsame.mono (by decide) (by decide)⟩
    · show Steps p.tables e below (s₁.setTop (mkF m 17 #[.val (.ref a1), .val (.int p2), .val (.int p3), .val (.int p4)] [(.int (0 : Int32))])) _
      exact retI X0 hx Bd.returns (hb hby d2_17) hr
    · show Q2 Z a1 p2 p3 p4 cl h0 n0 _ s₁.heap _
      rw [e0]
      exact ⟨by rw [hv], N0, rfl⟩
  · have pre142 : ∀ t, Steps p.tables e below (s₁.setTop (mkF m 18 #[.val (.ref a1), .val (.int p2), .val (.int p3), .val (.int p4)] [])) t → Steps p.tables e below (s₁.setTop (entryFrame m #[(.ref a1), (.int p2), (.int p3), (.int p4)] 4)) t := fun t k => pre0 t (blk0 a1 p2 p3 p4 cl hx hZ hw hby hml hown Ar hall X0 e0 t (fun q => absurd q c0) (fun _ => k))
    by_cases c1 : own_P (atv cl) p2 p3 p4 1
    · have pre143 : ∀ t, Steps p.tables e below (s₁.setTop (mkF m 36 #[.val (.ref a1), .val (.int p2), .val (.int p3), .val (.int p4)] [(.int (1 : Int32))])) t → Steps p.tables e below (s₁.setTop (entryFrame m #[(.ref a1), (.int p2), (.int p3), (.int p4)] 4)) t := fun t k => pre142 t (blk1 a1 p2 p3 p4 cl hx hZ hw hby hml hown Ar hall X0 e0 t (fun _ => k) (fun q => absurd c1 q))
      have hv : own_exp (atv cl) p2 p3 p4 = (1 : Int32) := by unfold own_exp; rw [if_neg c0, if_pos c1]
      obtain ⟨fs, hr, hrun, hended, hW, hsame⟩ := X0.leave (v := some (.int (1 : Int32))) (fun h => by rw [Bd.returns] at h; cases h)
      refine ⟨_, _, pre143 _ ?_, hrun, hended, _, _, rfl, ?_, ⟨_, rfl⟩, hW, hsame.mono (by decide) (by decide)⟩
      · show Steps p.tables e below (s₁.setTop (mkF m 36 #[.val (.ref a1), .val (.int p2), .val (.int p3), .val (.int p4)] [(.int (1 : Int32))])) _
        exact retI X0 hx Bd.returns (hb hby d2_36) hr
      · show Q2 Z a1 p2 p3 p4 cl h0 n0 _ s₁.heap _
        rw [e0]
        exact ⟨by rw [hv], N0, rfl⟩
    · have pre144 : ∀ t, Steps p.tables e below (s₁.setTop (mkF m 37 #[.val (.ref a1), .val (.int p2), .val (.int p3), .val (.int p4)] [])) t → Steps p.tables e below (s₁.setTop (entryFrame m #[(.ref a1), (.int p2), (.int p3), (.int p4)] 4)) t := fun t k => pre142 t (blk1 a1 p2 p3 p4 cl hx hZ hw hby hml hown Ar hall X0 e0 t (fun q => absurd q c1) (fun _ => k))
      by_cases c2 : own_P (atv cl) p2 p3 p4 2
      · have pre145 : ∀ t, Steps p.tables e below (s₁.setTop (mkF m 55 #[.val (.ref a1), .val (.int p2), .val (.int p3), .val (.int p4)] [(.int (2 : Int32))])) t → Steps p.tables e below (s₁.setTop (entryFrame m #[(.ref a1), (.int p2), (.int p3), (.int p4)] 4)) t := fun t k => pre144 t (blk2 a1 p2 p3 p4 cl hx hZ hw hby hml hown Ar hall X0 e0 t (fun _ => k) (fun q => absurd c2 q))
        have hv : own_exp (atv cl) p2 p3 p4 = (2 : Int32) := by unfold own_exp; rw [if_neg c0, if_neg c1, if_pos c2]
        obtain ⟨fs, hr, hrun, hended, hW, hsame⟩ := X0.leave (v := some (.int (2 : Int32))) (fun h => by rw [Bd.returns] at h; cases h)
        refine ⟨_, _, pre145 _ ?_, hrun, hended, _, _, rfl, ?_, ⟨_, rfl⟩, hW, hsame.mono (by decide) (by decide)⟩
        · show Steps p.tables e below (s₁.setTop (mkF m 55 #[.val (.ref a1), .val (.int p2), .val (.int p3), .val (.int p4)] [(.int (2 : Int32))])) _
          exact retI X0 hx Bd.returns (hb hby d2_55) hr
        · show Q2 Z a1 p2 p3 p4 cl h0 n0 _ s₁.heap _
          rw [e0]
          exact ⟨by rw [hv], N0, rfl⟩
      · have pre146 : ∀ t, Steps p.tables e below (s₁.setTop (mkF m 56 #[.val (.ref a1), .val (.int p2), .val (.int p3), .val (.int p4)] [])) t → Steps p.tables e below (s₁.setTop (entryFrame m #[(.ref a1), (.int p2), (.int p3), (.int p4)] 4)) t := fun t k => pre144 t (blk2 a1 p2 p3 p4 cl hx hZ hw hby hml hown Ar hall X0 e0 t (fun q => absurd q c2) (fun _ => k))
        by_cases c3 : own_P (atv cl) p2 p3 p4 3
        · have pre147 : ∀ t, Steps p.tables e below (s₁.setTop (mkF m 74 #[.val (.ref a1), .val (.int p2), .val (.int p3), .val (.int p4)] [(.int (3 : Int32))])) t → Steps p.tables e below (s₁.setTop (entryFrame m #[(.ref a1), (.int p2), (.int p3), (.int p4)] 4)) t := fun t k => pre146 t (blk3 a1 p2 p3 p4 cl hx hZ hw hby hml hown Ar hall X0 e0 t (fun _ => k) (fun q => absurd c3 q))
          have hv : own_exp (atv cl) p2 p3 p4 = (3 : Int32) := by unfold own_exp; rw [if_neg c0, if_neg c1, if_neg c2, if_pos c3]
          obtain ⟨fs, hr, hrun, hended, hW, hsame⟩ := X0.leave (v := some (.int (3 : Int32))) (fun h => by rw [Bd.returns] at h; cases h)
          refine ⟨_, _, pre147 _ ?_, hrun, hended, _, _, rfl, ?_, ⟨_, rfl⟩, hW, hsame.mono (by decide) (by decide)⟩
          · show Steps p.tables e below (s₁.setTop (mkF m 74 #[.val (.ref a1), .val (.int p2), .val (.int p3), .val (.int p4)] [(.int (3 : Int32))])) _
            exact retI X0 hx Bd.returns (hb hby d2_74) hr
          · show Q2 Z a1 p2 p3 p4 cl h0 n0 _ s₁.heap _
            rw [e0]
            exact ⟨by rw [hv], N0, rfl⟩
        · have pre148 : ∀ t, Steps p.tables e below (s₁.setTop (mkF m 75 #[.val (.ref a1), .val (.int p2), .val (.int p3), .val (.int p4)] [])) t → Steps p.tables e below (s₁.setTop (entryFrame m #[(.ref a1), (.int p2), (.int p3), (.int p4)] 4)) t := fun t k => pre146 t (blk3 a1 p2 p3 p4 cl hx hZ hw hby hml hown Ar hall X0 e0 t (fun q => absurd q c3) (fun _ => k))
          have pre149 : ∀ t, Steps p.tables e below (s₁.setTop (mkF m 76 #[.val (.ref a1), .val (.int p2), .val (.int p3), .val (.int p4)] [(.int p3)])) t → Steps p.tables e below (s₁.setTop (entryFrame m #[(.ref a1), (.int p2), (.int p3), (.int p4)] 4)) t := fun t9 k9 => pre148 t9 (by
              show Steps p.tables e below (s₁.setTop (mkF m 75 #[.val (.ref a1), .val (.int p2), .val (.int p3), .val (.int p4)] [])) _
              refine XS.iloadN X0.here hx rfl (hb hby d2_75) rfl ?_
              exact k9)
          have hv : own_exp (atv cl) p2 p3 p4 = p3 := by unfold own_exp; rw [if_neg c0, if_neg c1, if_neg c2, if_neg c3]
          obtain ⟨fs, hr, hrun, hended, hW, hsame⟩ := X0.leave (v := some (.int p3)) (fun h => by rw [Bd.returns] at h; cases h)
          refine ⟨_, _, pre149 _ ?_, hrun, hended, _, _, rfl, ?_, ⟨_, rfl⟩, hW, hsame.mono (by decide) (by decide)⟩
          · show Steps p.tables e below (s₁.setTop (mkF m 76 #[.val (.ref a1), .val (.int p2), .val (.int p3), .val (.int p4)] [(.int p3)])) _
            exact retI X0 hx Bd.returns (hb hby d2_76) hr
          · show Q2 Z a1 p2 p3 p4 cl h0 n0 _ s₁.heap _
            rw [e0]
            exact ⟨by rw [hv], N0, rfl⟩
theorem pd_0_0 : parseMethodDescriptor "([BIIB)I" = some ⟨[(.array .byte), .int, .int, .byte], some .int⟩ := by decide +kernel
theorem pn_0 : plainName "com/example/trank/trank/ByteRunsIndexOfPinLaw" = true := by first | (simp [plainName, overriddenIn]; done) | decide +kernel
theorem ef_0 (m : MethodId) (p1 : Int32) (p2 : Int32) (p3 : Int32) (p4 : Int32) (p5 : Int32) : entryFrame m #[(.int p1), (.int p2), (.int p3), (.int p4), (.int p5)] maxLocals = mkF m 0 #[.val (.int p1), .val (.int p2), .val (.int p3), .val (.int p4), .val (.int p5), .unset, .unset, .unset, .unset, .unset] [] := by first | (simp [entryFrame, mkF, argsToLocals, Value.category, maxLocals]; done) | rfl
def Q0 (Z : State) (p1 : Int32) (p2 : Int32) (p3 : Int32) (p4 : Int32) (p5 : Int32) (h0 : Heap) (n0 : Nat) (v : Option Value) (h : Heap) (L : List Loc) : Prop := v = some (.int 1) ∧ Fr n0 L
set_option maxRecDepth 65536 in
set_option maxHeartbeats 40000000 in
theorem rm0 (l : Launch) (Z : State) (a0 : Array Value) (hw : ∀ d ∈ tables_1, d.before a0 Z = true) (ws : List Jvm.Cond) (p1 : Int32) (p2 : Int32) (p3 : Int32) (p4 : Int32) (p5 : Int32) (h0 : Heap) (n0 : Nat) (Z0 : n0 ≤ h0.size)  :
    MetFree l x (head1 (Jvm.Cond.code x code maxLocals ret :: ws) room_1) (fun a U => a = #[(.int p1), (.int p2), (.int p3), (.int p4), (.int p5)] ∧ Z.Warmed39 U.vm ∧ U.heap = h0) (fun _ _ _ _ _ => True) (fun _ U o U' => ∃ v L, o = .returned v ∧ Q0 Z p1 p2 p3 p4 p5 h0 n0 v U'.heap L ∧ FrameEnd U o U' L room_1.cells room_1.slots) := by
  refine MetFree.of_bodySF (plainFor_of_name pn_0) hisR ?_
  intro p e s m args below meth c s₁ Bd hml0 hP hK
  obtain ⟨rfl, hZ, hh⟩ := hP
  have hx := Bd.exec
  have hby := Bd.bytes
  have hml : c.maxLocals = 10 := hml0
  have hown : s.vm.findClass "com/example/trank/trank/ByteRunsIndexOfPinLaw" = some m.cls := findClass_of_methodNamed Bd.named
  have hnm := (name_of_methodNamed Bd.named Bd.method).1
  have X0 : Stand p l e room_1 s m #[(.int p1), (.int p2), (.int p3), (.int p4), (.int p5)] below meth c s₁ [] 0 0 := Stand.of_body Bd
  have e0 : s₁.heap = h0 := by rw [← hh, Bd.state]; rfl
  have N0 := Fr.nil n0
  have pre0 : ∀ t, Steps p.tables e below (s₁.setTop (mkF m 0 #[.val (.int p1), .val (.int p2), .val (.int p3), .val (.int p4), .val (.int p5), .unset, .unset, .unset, .unset, .unset] [])) t → Steps p.tables e below (s₁.setTop (entryFrame m #[(.int p1), (.int p2), (.int p3), (.int p4), (.int p5)] maxLocals)) t := fun t k => castTop (ef_0 m p1 p2 p3 p4 p5) k
  have l3 : (3 : Int32).toInt = 3 := by decide
  have l5 : (5 : Int32).toInt = 5 := by decide
  have hb1 := c_and p3 (3 : Int32) (by decide)
  have hf1 := c_and p4 (2147483647 : Int32) (by decide)
  have ht1 := c_and p5 (2147483647 : Int32) (by decide)
  have hf2 := (c_irem (p4 &&& (2147483647 : Int32)) (5 : Int32) 5 (by decide)).1 hf1.1
  have hf3 : 0 ≤ ((p4 &&& (2147483647 : Int32)) % (5 : Int32)).toInt ∧ ((p4 &&& (2147483647 : Int32)) % (5 : Int32)).toInt ≤ 4 := by omega
  obtain ⟨T101, h101, k101, X101, e101, E101, A101, st101⟩ := newP X0 hx hZ (hw _ (List.mem_of_getElem? (i := 0) rfl)) e0 (g := (mkF m 1 #[.val (.int p1), .val (.int p2), .val (.int p3), .val (.int p4), .val (.int p5), .unset, .unset, .unset, .unset, .unset] [(.int (4 : Int32))])) rfl (hb hby at_1) rfl (by decide) (cap := 4) (by decide) (by decide) (by decide) (by decide)
  obtain ⟨b101, g101⟩ : ∃ z, z = h0.size := ⟨_, rfl⟩
  rw [← g101] at A101 st101
  have g_b101 : n0 ≤ b101 := Nat.le_trans Z0 (Nat.le_of_eq g101.symm)
  have sz_b101 : h0.size ≤ b101 := Nat.le_trans (Keep.refl h0 []).1 (Nat.le_of_eq g101.symm)
  have V101 : Arv Z h101 b101 k101 .byte (4 : Int32) [(.int (0 : Int32)), (.int (0 : Int32)), (.int (0 : Int32)), (.int (0 : Int32))] (.int (0 : Int32)) := (Arv.new A101 (by decide)).pad (pad_rep [] (.int (0 : Int32)) 4)
  have K101 := (Keep.refl h0 []).ext E101
  have Z101 : n0 ≤ h101.size := Nat.le_trans Z0 E101.1
  obtain ⟨cl102, Ar102, q102, S102, M102, H102, G102⟩ := V101
  have hin102 : ¬ ((0 : Int32) < 0 ∨ cl102.slots.size ≤ ((0 : Int32)).toNatClampNeg) := inb_of S102 ⟨by decide, by decide⟩
  obtain ⟨T103, h103, X103, e103, W103, st103⟩ := stB X101 hx hZ e101 Ar102 (j := (0 : Int32)) hin102 (g := (mkF m 10 #[.val (.int p1), .val (.int p2), .val (.int p3), .val (.int p4), .val (.int p5), .val (.ref b101), .unset, .unset, .unset, .unset] [(.int (p1.toInt8.toInt32)), (.int (0 : Int32)), (.ref b101)])) rfl rfl (hb hby at_10)
  have V103 : Arv Z h103 b101 k101 .byte (4 : Int32) [(.int (nar .byte (p1.toInt8.toInt32))), (.int (0 : Int32)), (.int (0 : Int32)), (.int (0 : Int32))] (.int (0 : Int32)) := Arv.set Ar102 q102 S102 M102 H102 G102 (fits_nar_byte _) W103 0 rfl (Nat.le_of_ble_eq_true rfl)
  have N103 := Fr.snoc X103 N0 g_b101
  have K103 := K101.wr W103 (Or.inr sz_b101)
  have Z103 : n0 ≤ h103.size := (Nat.le_trans Z101 (Keep.of_wr W103).1)
  obtain ⟨cl104, Ar104, q104, S104, M104, H104, G104⟩ := V103
  have hin104 : ¬ ((1 : Int32) < 0 ∨ cl104.slots.size ≤ ((1 : Int32)).toNatClampNeg) := inb_of S104 ⟨by decide, by decide⟩
  obtain ⟨T105, h105, X105, e105, W105, st105⟩ := stB X103 hx hZ e103 Ar104 (j := (1 : Int32)) hin104 (g := (mkF m 19 #[.val (.int p1), .val (.int p2), .val (.int p3), .val (.int p4), .val (.int p5), .val (.ref b101), .unset, .unset, .unset, .unset] [(.int ((p1 >>> ((8 : Int32) &&& 31)).toInt8.toInt32)), (.int (1 : Int32)), (.ref b101)])) rfl rfl (hb hby at_19)
  have V105 : Arv Z h105 b101 k101 .byte (4 : Int32) [(.int (nar .byte (p1.toInt8.toInt32))), (.int (nar .byte ((p1 >>> ((8 : Int32) &&& 31)).toInt8.toInt32))), (.int (0 : Int32)), (.int (0 : Int32))] (.int (0 : Int32)) := Arv.set Ar104 q104 S104 M104 H104 G104 (fits_nar_byte _) W105 1 rfl (Nat.le_of_ble_eq_true rfl)
  have N105 := Fr.snoc X105 N103 g_b101
  have K105 := K103.wr W105 (Or.inr sz_b101)
  have Z105 : n0 ≤ h105.size := (Nat.le_trans Z103 (Keep.of_wr W105).1)
  obtain ⟨cl106, Ar106, q106, S106, M106, H106, G106⟩ := V105
  have hin106 : ¬ ((2 : Int32) < 0 ∨ cl106.slots.size ≤ ((2 : Int32)).toNatClampNeg) := inb_of S106 ⟨by decide, by decide⟩
  obtain ⟨T107, h107, X107, e107, W107, st107⟩ := stB X105 hx hZ e105 Ar106 (j := (2 : Int32)) hin106 (g := (mkF m 28 #[.val (.int p1), .val (.int p2), .val (.int p3), .val (.int p4), .val (.int p5), .val (.ref b101), .unset, .unset, .unset, .unset] [(.int ((p1 >>> ((16 : Int32) &&& 31)).toInt8.toInt32)), (.int (2 : Int32)), (.ref b101)])) rfl rfl (hb hby at_28)
  have V107 : Arv Z h107 b101 k101 .byte (4 : Int32) [(.int (nar .byte (p1.toInt8.toInt32))), (.int (nar .byte ((p1 >>> ((8 : Int32) &&& 31)).toInt8.toInt32))), (.int (nar .byte ((p1 >>> ((16 : Int32) &&& 31)).toInt8.toInt32))), (.int (0 : Int32))] (.int (0 : Int32)) := Arv.set Ar106 q106 S106 M106 H106 G106 (fits_nar_byte _) W107 2 rfl (Nat.le_of_ble_eq_true rfl)
  have N107 := Fr.snoc X107 N105 g_b101
  have K107 := K105.wr W107 (Or.inr sz_b101)
  have Z107 : n0 ≤ h107.size := (Nat.le_trans Z105 (Keep.of_wr W107).1)
  obtain ⟨cl108, Ar108, q108, S108, M108, H108, G108⟩ := V107
  have hin108 : ¬ ((3 : Int32) < 0 ∨ cl108.slots.size ≤ ((3 : Int32)).toNatClampNeg) := inb_of S108 ⟨by decide, by decide⟩
  obtain ⟨T109, h109, X109, e109, W109, st109⟩ := stB X107 hx hZ e107 Ar108 (j := (3 : Int32)) hin108 (g := (mkF m 37 #[.val (.int p1), .val (.int p2), .val (.int p3), .val (.int p4), .val (.int p5), .val (.ref b101), .unset, .unset, .unset, .unset] [(.int (((p1.toUInt32 >>> ((24 : Int32) &&& 31).toUInt32).toInt32).toInt8.toInt32)), (.int (3 : Int32)), (.ref b101)])) rfl rfl (hb hby at_37)
  have V109 : Arv Z h109 b101 k101 .byte (4 : Int32) [(.int (nar .byte (p1.toInt8.toInt32))), (.int (nar .byte ((p1 >>> ((8 : Int32) &&& 31)).toInt8.toInt32))), (.int (nar .byte ((p1 >>> ((16 : Int32) &&& 31)).toInt8.toInt32))), (.int (nar .byte (((p1.toUInt32 >>> ((24 : Int32) &&& 31).toUInt32).toInt32).toInt8.toInt32)))] (.int (0 : Int32)) := Arv.set Ar108 q108 S108 M108 H108 G108 (fits_nar_byte _) W109 3 rfl (Nat.le_of_ble_eq_true rfl)
  have N109 := Fr.snoc X109 N107 g_b101
  have K109 := K107.wr W109 (Or.inr sz_b101)
  have Z109 : n0 ≤ h109.size := (Nat.le_trans Z107 (Keep.of_wr W109).1)
  obtain ⟨cl, Ar, qA, SA, MA, HA, GA⟩ := V109
  have hall : own_in cl := own_all SA HA
  have pre110 : ∀ t, Steps p.tables e below (T109.setTop (mkF m 41 #[.val (.int p1), .val (.int p2), .val (.int p3), .val (.int p4), .val (.int p5), .val (.ref b101), .unset, .unset, .unset, .unset] [(.int (p3 &&& (4 : Int32)))])) t → Steps p.tables e below (s₁.setTop (entryFrame m #[(.int p1), (.int p2), (.int p3), (.int p4), (.int p5)] maxLocals)) t := fun t9 k9 => pre0 t9 (by
      show Steps p.tables e below (s₁.setTop (mkF m 0 #[.val (.int p1), .val (.int p2), .val (.int p3), .val (.int p4), .val (.int p5), .unset, .unset, .unset, .unset, .unset] [])) _
      refine XS.iconst X0.here hx rfl (hb hby at_0) ?_
      show Steps p.tables e below (s₁.setTop (mkF m 1 #[.val (.int p1), .val (.int p2), .val (.int p3), .val (.int p4), .val (.int p5), .unset, .unset, .unset, .unset, .unset] [(.int (4 : Int32))])) _
      refine st101 _ ?_
      show Steps p.tables e below (T101.setTop (mkF m 3 #[.val (.int p1), .val (.int p2), .val (.int p3), .val (.int p4), .val (.int p5), .unset, .unset, .unset, .unset, .unset] [(.ref b101)])) _
      refine XS.astore X101.here hx rfl (hb hby at_3) rfl rfl (l' := #[.val (.int p1), .val (.int p2), .val (.int p3), .val (.int p4), .val (.int p5), .val (.ref b101), .unset, .unset, .unset, .unset]) rfl ?_
      show Steps p.tables e below (T101.setTop (mkF m 5 #[.val (.int p1), .val (.int p2), .val (.int p3), .val (.int p4), .val (.int p5), .val (.ref b101), .unset, .unset, .unset, .unset] [])) _
      refine XS.aload X101.here hx rfl (hb hby at_5) rfl rfl ?_
      show Steps p.tables e below (T101.setTop (mkF m 7 #[.val (.int p1), .val (.int p2), .val (.int p3), .val (.int p4), .val (.int p5), .val (.ref b101), .unset, .unset, .unset, .unset] [(.ref b101)])) _
      refine XS.iconst X101.here hx rfl (hb hby at_7) ?_
      show Steps p.tables e below (T101.setTop (mkF m 8 #[.val (.int p1), .val (.int p2), .val (.int p3), .val (.int p4), .val (.int p5), .val (.ref b101), .unset, .unset, .unset, .unset] [(.int (0 : Int32)), (.ref b101)])) _
      refine XS.iloadN X101.here hx rfl (hb hby at_8) rfl ?_
      show Steps p.tables e below (T101.setTop (mkF m 9 #[.val (.int p1), .val (.int p2), .val (.int p3), .val (.int p4), .val (.int p5), .val (.ref b101), .unset, .unset, .unset, .unset] [(.int p1), (.int (0 : Int32)), (.ref b101)])) _
      refine XS.i2b X101.here hx rfl (hb hby at_9) rfl ?_
      show Steps p.tables e below (T101.setTop (mkF m 10 #[.val (.int p1), .val (.int p2), .val (.int p3), .val (.int p4), .val (.int p5), .val (.ref b101), .unset, .unset, .unset, .unset] [(.int (p1.toInt8.toInt32)), (.int (0 : Int32)), (.ref b101)])) _
      refine st103 _ ?_
      show Steps p.tables e below (T103.setTop (mkF m 11 #[.val (.int p1), .val (.int p2), .val (.int p3), .val (.int p4), .val (.int p5), .val (.ref b101), .unset, .unset, .unset, .unset] [])) _
      refine XS.aload X103.here hx rfl (hb hby at_11) rfl rfl ?_
      show Steps p.tables e below (T103.setTop (mkF m 13 #[.val (.int p1), .val (.int p2), .val (.int p3), .val (.int p4), .val (.int p5), .val (.ref b101), .unset, .unset, .unset, .unset] [(.ref b101)])) _
      refine XS.iconst X103.here hx rfl (hb hby at_13) ?_
      show Steps p.tables e below (T103.setTop (mkF m 14 #[.val (.int p1), .val (.int p2), .val (.int p3), .val (.int p4), .val (.int p5), .val (.ref b101), .unset, .unset, .unset, .unset] [(.int (1 : Int32)), (.ref b101)])) _
      refine XS.iloadN X103.here hx rfl (hb hby at_14) rfl ?_
      show Steps p.tables e below (T103.setTop (mkF m 15 #[.val (.int p1), .val (.int p2), .val (.int p3), .val (.int p4), .val (.int p5), .val (.ref b101), .unset, .unset, .unset, .unset] [(.int p1), (.int (1 : Int32)), (.ref b101)])) _
      refine XS.bipush X103.here hx rfl (hb hby at_15) ?_
      show Steps p.tables e below (T103.setTop (mkF m 17 #[.val (.int p1), .val (.int p2), .val (.int p3), .val (.int p4), .val (.int p5), .val (.ref b101), .unset, .unset, .unset, .unset] [(.int (8 : Int32)), (.int p1), (.int (1 : Int32)), (.ref b101)])) _
      refine XS.ishr X103.here hx rfl (hb hby at_17) rfl ?_
      show Steps p.tables e below (T103.setTop (mkF m 18 #[.val (.int p1), .val (.int p2), .val (.int p3), .val (.int p4), .val (.int p5), .val (.ref b101), .unset, .unset, .unset, .unset] [(.int (p1 >>> ((8 : Int32) &&& 31))), (.int (1 : Int32)), (.ref b101)])) _
      refine XS.i2b X103.here hx rfl (hb hby at_18) rfl ?_
      show Steps p.tables e below (T103.setTop (mkF m 19 #[.val (.int p1), .val (.int p2), .val (.int p3), .val (.int p4), .val (.int p5), .val (.ref b101), .unset, .unset, .unset, .unset] [(.int ((p1 >>> ((8 : Int32) &&& 31)).toInt8.toInt32)), (.int (1 : Int32)), (.ref b101)])) _
      refine st105 _ ?_
      show Steps p.tables e below (T105.setTop (mkF m 20 #[.val (.int p1), .val (.int p2), .val (.int p3), .val (.int p4), .val (.int p5), .val (.ref b101), .unset, .unset, .unset, .unset] [])) _
      refine XS.aload X105.here hx rfl (hb hby at_20) rfl rfl ?_
      show Steps p.tables e below (T105.setTop (mkF m 22 #[.val (.int p1), .val (.int p2), .val (.int p3), .val (.int p4), .val (.int p5), .val (.ref b101), .unset, .unset, .unset, .unset] [(.ref b101)])) _
      refine XS.iconst X105.here hx rfl (hb hby at_22) ?_
      show Steps p.tables e below (T105.setTop (mkF m 23 #[.val (.int p1), .val (.int p2), .val (.int p3), .val (.int p4), .val (.int p5), .val (.ref b101), .unset, .unset, .unset, .unset] [(.int (2 : Int32)), (.ref b101)])) _
      refine XS.iloadN X105.here hx rfl (hb hby at_23) rfl ?_
      show Steps p.tables e below (T105.setTop (mkF m 24 #[.val (.int p1), .val (.int p2), .val (.int p3), .val (.int p4), .val (.int p5), .val (.ref b101), .unset, .unset, .unset, .unset] [(.int p1), (.int (2 : Int32)), (.ref b101)])) _
      refine XS.bipush X105.here hx rfl (hb hby at_24) ?_
      show Steps p.tables e below (T105.setTop (mkF m 26 #[.val (.int p1), .val (.int p2), .val (.int p3), .val (.int p4), .val (.int p5), .val (.ref b101), .unset, .unset, .unset, .unset] [(.int (16 : Int32)), (.int p1), (.int (2 : Int32)), (.ref b101)])) _
      refine XS.ishr X105.here hx rfl (hb hby at_26) rfl ?_
      show Steps p.tables e below (T105.setTop (mkF m 27 #[.val (.int p1), .val (.int p2), .val (.int p3), .val (.int p4), .val (.int p5), .val (.ref b101), .unset, .unset, .unset, .unset] [(.int (p1 >>> ((16 : Int32) &&& 31))), (.int (2 : Int32)), (.ref b101)])) _
      refine XS.i2b X105.here hx rfl (hb hby at_27) rfl ?_
      show Steps p.tables e below (T105.setTop (mkF m 28 #[.val (.int p1), .val (.int p2), .val (.int p3), .val (.int p4), .val (.int p5), .val (.ref b101), .unset, .unset, .unset, .unset] [(.int ((p1 >>> ((16 : Int32) &&& 31)).toInt8.toInt32)), (.int (2 : Int32)), (.ref b101)])) _
      refine st107 _ ?_
      show Steps p.tables e below (T107.setTop (mkF m 29 #[.val (.int p1), .val (.int p2), .val (.int p3), .val (.int p4), .val (.int p5), .val (.ref b101), .unset, .unset, .unset, .unset] [])) _
      refine XS.aload X107.here hx rfl (hb hby at_29) rfl rfl ?_
      show Steps p.tables e below (T107.setTop (mkF m 31 #[.val (.int p1), .val (.int p2), .val (.int p3), .val (.int p4), .val (.int p5), .val (.ref b101), .unset, .unset, .unset, .unset] [(.ref b101)])) _
      refine XS.iconst X107.here hx rfl (hb hby at_31) ?_
      show Steps p.tables e below (T107.setTop (mkF m 32 #[.val (.int p1), .val (.int p2), .val (.int p3), .val (.int p4), .val (.int p5), .val (.ref b101), .unset, .unset, .unset, .unset] [(.int (3 : Int32)), (.ref b101)])) _
      refine XS.iloadN X107.here hx rfl (hb hby at_32) rfl ?_
      show Steps p.tables e below (T107.setTop (mkF m 33 #[.val (.int p1), .val (.int p2), .val (.int p3), .val (.int p4), .val (.int p5), .val (.ref b101), .unset, .unset, .unset, .unset] [(.int p1), (.int (3 : Int32)), (.ref b101)])) _
      refine XS.bipush X107.here hx rfl (hb hby at_33) ?_
      show Steps p.tables e below (T107.setTop (mkF m 35 #[.val (.int p1), .val (.int p2), .val (.int p3), .val (.int p4), .val (.int p5), .val (.ref b101), .unset, .unset, .unset, .unset] [(.int (24 : Int32)), (.int p1), (.int (3 : Int32)), (.ref b101)])) _
      refine XS.iushr X107.here hx rfl (hb hby at_35) rfl ?_
      show Steps p.tables e below (T107.setTop (mkF m 36 #[.val (.int p1), .val (.int p2), .val (.int p3), .val (.int p4), .val (.int p5), .val (.ref b101), .unset, .unset, .unset, .unset] [(.int ((p1.toUInt32 >>> ((24 : Int32) &&& 31).toUInt32).toInt32)), (.int (3 : Int32)), (.ref b101)])) _
      refine XS.i2b X107.here hx rfl (hb hby at_36) rfl ?_
      show Steps p.tables e below (T107.setTop (mkF m 37 #[.val (.int p1), .val (.int p2), .val (.int p3), .val (.int p4), .val (.int p5), .val (.ref b101), .unset, .unset, .unset, .unset] [(.int (((p1.toUInt32 >>> ((24 : Int32) &&& 31).toUInt32).toInt32).toInt8.toInt32)), (.int (3 : Int32)), (.ref b101)])) _
      refine st109 _ ?_
      show Steps p.tables e below (T109.setTop (mkF m 38 #[.val (.int p1), .val (.int p2), .val (.int p3), .val (.int p4), .val (.int p5), .val (.ref b101), .unset, .unset, .unset, .unset] [])) _
      refine XS.iloadN X109.here hx rfl (hb hby at_38) rfl ?_
      show Steps p.tables e below (T109.setTop (mkF m 39 #[.val (.int p1), .val (.int p2), .val (.int p3), .val (.int p4), .val (.int p5), .val (.ref b101), .unset, .unset, .unset, .unset] [(.int p3)])) _
      refine XS.iconst X109.here hx rfl (hb hby at_39) ?_
      show Steps p.tables e below (T109.setTop (mkF m 40 #[.val (.int p1), .val (.int p2), .val (.int p3), .val (.int p4), .val (.int p5), .val (.ref b101), .unset, .unset, .unset, .unset] [(.int (4 : Int32)), (.int p3)])) _
      refine XS.iand X109.here hx rfl (hb hby at_40) rfl ?_
      exact k9)
  by_cases b111 : (p3 &&& (4 : Int32)).toInt = (0 : Int)
  · have pre112 : ∀ t, Steps p.tables e below (T109.setTop (mkF m 63 #[.val (.int p1), .val (.int p2), .val (.int p3), .val (.int p4), .val (.int p5), .val (.ref b101), .val (.int (p2.toInt8.toInt32)), .unset, .unset, .unset] [(.int ((p4 &&& (2147483647 : Int32)) % (5 : Int32)))])) t → Steps p.tables e below (s₁.setTop (entryFrame m #[(.int p1), (.int p2), (.int p3), (.int p4), (.int p5)] maxLocals)) t := fun t9 k9 => pre110 t9 (by
        show Steps p.tables e below (T109.setTop (mkF m 41 #[.val (.int p1), .val (.int p2), .val (.int p3), .val (.int p4), .val (.int p5), .val (.ref b101), .unset, .unset, .unset, .unset] [(.int (p3 &&& (4 : Int32)))])) _
        refine XS.ifYes X109.here hx rfl (pc0 := 41) (pc' := 53) rfl (hb hby at_41) rfl ((if0 _ _).trans (own_eq_t rfl (by decide) b111)) (by decide) (by decide) ?_
        show Steps p.tables e below (T109.setTop (mkF m 53 #[.val (.int p1), .val (.int p2), .val (.int p3), .val (.int p4), .val (.int p5), .val (.ref b101), .unset, .unset, .unset, .unset] [])) _
        refine XS.iloadN X109.here hx rfl (hb hby at_53) rfl ?_
        show Steps p.tables e below (T109.setTop (mkF m 54 #[.val (.int p1), .val (.int p2), .val (.int p3), .val (.int p4), .val (.int p5), .val (.ref b101), .unset, .unset, .unset, .unset] [(.int p2)])) _
        refine XS.i2b X109.here hx rfl (hb hby at_54) rfl ?_
        show Steps p.tables e below (T109.setTop (mkF m 55 #[.val (.int p1), .val (.int p2), .val (.int p3), .val (.int p4), .val (.int p5), .val (.ref b101), .unset, .unset, .unset, .unset] [(.int (p2.toInt8.toInt32))])) _
        refine XS.istore X109.here hx rfl (hb hby at_55) rfl (l' := #[.val (.int p1), .val (.int p2), .val (.int p3), .val (.int p4), .val (.int p5), .val (.ref b101), .val (.int (p2.toInt8.toInt32)), .unset, .unset, .unset]) rfl ?_
        show Steps p.tables e below (T109.setTop (mkF m 57 #[.val (.int p1), .val (.int p2), .val (.int p3), .val (.int p4), .val (.int p5), .val (.ref b101), .val (.int (p2.toInt8.toInt32)), .unset, .unset, .unset] [])) _
        refine XS.iloadN X109.here hx rfl (hb hby at_57) rfl ?_
        show Steps p.tables e below (T109.setTop (mkF m 58 #[.val (.int p1), .val (.int p2), .val (.int p3), .val (.int p4), .val (.int p5), .val (.ref b101), .val (.int (p2.toInt8.toInt32)), .unset, .unset, .unset] [(.int p4)])) _
        refine X109.ldcInt hx hown (mvT hZ (hw _ (List.mem_of_getElem? (i := 1) rfl))) (g := (mkF m 58 #[.val (.int p1), .val (.int p2), .val (.int p3), .val (.int p4), .val (.int p5), .val (.ref b101), .val (.int (p2.toInt8.toInt32)), .unset, .unset, .unset] [(.int p4)])) rfl (hb hby at_58) _ ?_
        show Steps p.tables e below (T109.setTop (mkF m 60 #[.val (.int p1), .val (.int p2), .val (.int p3), .val (.int p4), .val (.int p5), .val (.ref b101), .val (.int (p2.toInt8.toInt32)), .unset, .unset, .unset] [(.int (2147483647 : Int32)), (.int p4)])) _
        refine XS.iand X109.here hx rfl (hb hby at_60) rfl ?_
        show Steps p.tables e below (T109.setTop (mkF m 61 #[.val (.int p1), .val (.int p2), .val (.int p3), .val (.int p4), .val (.int p5), .val (.ref b101), .val (.int (p2.toInt8.toInt32)), .unset, .unset, .unset] [(.int (p4 &&& (2147483647 : Int32)))])) _
        refine XS.iconst X109.here hx rfl (hb hby at_61) ?_
        show Steps p.tables e below (T109.setTop (mkF m 62 #[.val (.int p1), .val (.int p2), .val (.int p3), .val (.int p4), .val (.int p5), .val (.ref b101), .val (.int (p2.toInt8.toInt32)), .unset, .unset, .unset] [(.int (5 : Int32)), (.int (p4 &&& (2147483647 : Int32)))])) _
        refine iremM X109 hx rfl (hb hby at_62) rfl (by decide) ?_
        exact k9)
    obtain ⟨fr, h_fr⟩ : ∃ z, ((p4 &&& (2147483647 : Int32)) % (5 : Int32)) = z := ⟨_, rfl⟩
    rw [h_fr] at pre112 hf3
    clear hf2
    have hd1 := c_isub (5 : Int32) fr
    have hd2 := rng32 ((5 : Int32) - fr)
    have hd3 : ((5 : Int32) - fr).toInt = 5 - fr.toInt := by omega
    have hnz : (5 : Int32) - fr ≠ 0 := fun q => by
      have z : ((5 : Int32) - fr).toInt = 0 := by rw [q]; decide
      omega
    have hr1 := (c_iremV (p5 &&& (2147483647 : Int32)) ((5 : Int32) - fr)).1 ht1.1 (by omega)
    have hs1 := c_iadd fr ((p5 &&& (2147483647 : Int32)) % ((5 : Int32) - fr))
    have hs2 := rng32 (fr + ((p5 &&& (2147483647 : Int32)) % ((5 : Int32) - fr)))
    have hs3 : fr.toInt ≤ (fr + ((p5 &&& (2147483647 : Int32)) % ((5 : Int32) - fr))).toInt ∧ (fr + ((p5 &&& (2147483647 : Int32)) % ((5 : Int32) - fr))).toInt ≤ 4 := by omega
    have pre113 : ∀ t, Steps p.tables e below (T109.setTop (mkF m 78 #[.val (.int p1), .val (.int p2), .val (.int p3), .val (.int p4), .val (.int p5), .val (.ref b101), .val (.int (p2.toInt8.toInt32)), .val (.int fr), .unset, .unset] [(.int (fr + ((p5 &&& (2147483647 : Int32)) % ((5 : Int32) - fr))))])) t → Steps p.tables e below (s₁.setTop (entryFrame m #[(.int p1), (.int p2), (.int p3), (.int p4), (.int p5)] maxLocals)) t := fun t9 k9 => pre112 t9 (by
        show Steps p.tables e below (T109.setTop (mkF m 63 #[.val (.int p1), .val (.int p2), .val (.int p3), .val (.int p4), .val (.int p5), .val (.ref b101), .val (.int (p2.toInt8.toInt32)), .unset, .unset, .unset] [(.int fr)])) _
        refine XS.istore X109.here hx rfl (hb hby at_63) rfl (l' := #[.val (.int p1), .val (.int p2), .val (.int p3), .val (.int p4), .val (.int p5), .val (.ref b101), .val (.int (p2.toInt8.toInt32)), .val (.int fr), .unset, .unset]) rfl ?_
        show Steps p.tables e below (T109.setTop (mkF m 65 #[.val (.int p1), .val (.int p2), .val (.int p3), .val (.int p4), .val (.int p5), .val (.ref b101), .val (.int (p2.toInt8.toInt32)), .val (.int fr), .unset, .unset] [])) _
        refine XS.iload X109.here hx rfl (hb hby at_65) rfl ?_
        show Steps p.tables e below (T109.setTop (mkF m 67 #[.val (.int p1), .val (.int p2), .val (.int p3), .val (.int p4), .val (.int p5), .val (.ref b101), .val (.int (p2.toInt8.toInt32)), .val (.int fr), .unset, .unset] [(.int fr)])) _
        refine XS.iload X109.here hx rfl (hb hby at_67) rfl ?_
        show Steps p.tables e below (T109.setTop (mkF m 69 #[.val (.int p1), .val (.int p2), .val (.int p3), .val (.int p4), .val (.int p5), .val (.ref b101), .val (.int (p2.toInt8.toInt32)), .val (.int fr), .unset, .unset] [(.int p5), (.int fr)])) _
        refine X109.ldcInt hx hown (mvT hZ (hw _ (List.mem_of_getElem? (i := 1) rfl))) (g := (mkF m 69 #[.val (.int p1), .val (.int p2), .val (.int p3), .val (.int p4), .val (.int p5), .val (.ref b101), .val (.int (p2.toInt8.toInt32)), .val (.int fr), .unset, .unset] [(.int p5), (.int fr)])) rfl (hb hby at_69) _ ?_
        show Steps p.tables e below (T109.setTop (mkF m 71 #[.val (.int p1), .val (.int p2), .val (.int p3), .val (.int p4), .val (.int p5), .val (.ref b101), .val (.int (p2.toInt8.toInt32)), .val (.int fr), .unset, .unset] [(.int (2147483647 : Int32)), (.int p5), (.int fr)])) _
        refine XS.iand X109.here hx rfl (hb hby at_71) rfl ?_
        show Steps p.tables e below (T109.setTop (mkF m 72 #[.val (.int p1), .val (.int p2), .val (.int p3), .val (.int p4), .val (.int p5), .val (.ref b101), .val (.int (p2.toInt8.toInt32)), .val (.int fr), .unset, .unset] [(.int (p5 &&& (2147483647 : Int32))), (.int fr)])) _
        refine XS.iconst X109.here hx rfl (hb hby at_72) ?_
        show Steps p.tables e below (T109.setTop (mkF m 73 #[.val (.int p1), .val (.int p2), .val (.int p3), .val (.int p4), .val (.int p5), .val (.ref b101), .val (.int (p2.toInt8.toInt32)), .val (.int fr), .unset, .unset] [(.int (5 : Int32)), (.int (p5 &&& (2147483647 : Int32))), (.int fr)])) _
        refine XS.iload X109.here hx rfl (hb hby at_73) rfl ?_
        show Steps p.tables e below (T109.setTop (mkF m 75 #[.val (.int p1), .val (.int p2), .val (.int p3), .val (.int p4), .val (.int p5), .val (.ref b101), .val (.int (p2.toInt8.toInt32)), .val (.int fr), .unset, .unset] [(.int fr), (.int (5 : Int32)), (.int (p5 &&& (2147483647 : Int32))), (.int fr)])) _
        refine XS.isub X109.here hx rfl (hb hby at_75) rfl ?_
        show Steps p.tables e below (T109.setTop (mkF m 76 #[.val (.int p1), .val (.int p2), .val (.int p3), .val (.int p4), .val (.int p5), .val (.ref b101), .val (.int (p2.toInt8.toInt32)), .val (.int fr), .unset, .unset] [(.int ((5 : Int32) - fr)), (.int (p5 &&& (2147483647 : Int32))), (.int fr)])) _
        refine iremM X109 hx rfl (hb hby at_76) rfl hnz ?_
        show Steps p.tables e below (T109.setTop (mkF m 77 #[.val (.int p1), .val (.int p2), .val (.int p3), .val (.int p4), .val (.int p5), .val (.ref b101), .val (.int (p2.toInt8.toInt32)), .val (.int fr), .unset, .unset] [(.int ((p5 &&& (2147483647 : Int32)) % ((5 : Int32) - fr))), (.int fr)])) _
        refine XS.iadd X109.here hx rfl (hb hby at_77) rfl ?_
        exact k9)
    obtain ⟨to, h_to⟩ : ∃ z, (fr + ((p5 &&& (2147483647 : Int32)) % ((5 : Int32) - fr))) = z := ⟨_, rfl⟩
    rw [h_to] at pre113 hs3
    obtain ⟨_, _, ⟨T114, L114, k114, n114⟩, -, X114, ⟨Lc114, hQ114, l114, y114, z114⟩, st114⟩ := Jvm.LawKit.callS X109 hx (y := (⟨"com/example/trank/trank/ByteRuns", "indexOf", "([BIIB)I"⟩ : MethodName)) hown (mvT hZ (hw _ (List.mem_of_getElem? (i := 2) rfl))) (mvT hZ (hw _ (List.mem_of_getElem? (i := 3) rfl))) (mvT hZ (hw _ (List.mem_of_getElem? (i := 4) rfl))) (mvT hZ (hw _ (List.mem_of_getElem? (i := 5) rfl))) (by decide) (backOf (W := 0) (rm1 l Z a0 hw [] b101 fr to (p2.toInt8.toInt32) cl h109 n0 Z109 Ar hall hf3.1 hs3.1 hs3.2) hZ (hw _ (List.mem_of_getElem? (i := 5) rfl)) (hw _ (List.mem_of_getElem? (i := 4) rfl)) (by decide) (by decide)) (g := (mkF m 88 #[.val (.int p1), .val (.int p2), .val (.int p3), .val (.int p4), .val (.int p5), .val (.ref b101), .val (.int (p2.toInt8.toInt32)), .val (.int fr), .val (.int to), .unset] [(.int (p2.toInt8.toInt32)), (.int to), (.int fr), (.ref b101)])) rfl (by rw [hml]; rfl) (argsL := [(.ref b101), (.int fr), (.int to), (.int (p2.toInt8.toInt32))]) (rest := []) (lenOf pd_0_0 rfl) rfl (by show 2 * 0 + _ ≤ _; exact Nat.le_of_eq rfl) (hb hby at_88) (fun _ _ => ⟨rfl, e109, (by decide : 1 + 0 ≤ _), (by decide : 4 + 0 ≤ _)⟩)
    dsimp only [Pt.U, Pt.locs, Pt.cells, Pt.slots] at X114 l114 y114 z114 st114 hQ114
    subst l114 y114 z114
    obtain ⟨hv114, N114q, e114⟩ := hQ114
    subst hv114
    have N114 := Fr.app N109 N114q
    obtain ⟨_, _, ⟨T115, L115, k115, n115⟩, -, X115, ⟨Lc115, hQ115, l115, y115, z115⟩, st115⟩ := Jvm.LawKit.callS X114 hx (y := (⟨"com/example/trank/trank/ByteRunsIndexOfPinLaw", "expected", "([BIIB)I"⟩ : MethodName)) hown (mvT hZ (hw _ (List.mem_of_getElem? (i := 6) rfl))) (mvT hZ (hw _ (List.mem_of_getElem? (i := 7) rfl))) (mvT hZ (hw _ (List.mem_of_getElem? (i := 8) rfl))) (mvT hZ (hw _ (List.mem_of_getElem? (i := 9) rfl))) (by decide) (backOf (W := 1) (rm2 l Z a0 hw [] b101 fr to (p2.toInt8.toInt32) cl h109 n0 Z109 Ar hall) hZ (hw _ (List.mem_of_getElem? (i := 9) rfl)) (hw _ (List.mem_of_getElem? (i := 8) rfl)) (by decide) (by decide)) (g := (mkF m 103 #[.val (.int p1), .val (.int p2), .val (.int p3), .val (.int p4), .val (.int p5), .val (.ref b101), .val (.int (p2.toInt8.toInt32)), .val (.int fr), .val (.int to), .val (.int (own_find (atv cl) (p2.toInt8.toInt32) (to.toInt - fr.toInt).toNat fr))] [(.int (p2.toInt8.toInt32)), (.int to), (.int fr), (.ref b101), (.int (own_find (atv cl) (p2.toInt8.toInt32) (to.toInt - fr.toInt).toNat fr))])) rfl (by rw [hml]; rfl) (argsL := [(.ref b101), (.int fr), (.int to), (.int (p2.toInt8.toInt32))]) (rest := [(.int (own_find (atv cl) (p2.toInt8.toInt32) (to.toInt - fr.toInt).toNat fr))]) (lenOf pd_0_0 rfl) rfl (by show 2 * 0 + _ ≤ _; exact Nat.le_of_eq rfl) (hb hby at_103) (fun _ _ => ⟨rfl, e114, (by decide : 1 + 0 ≤ _), (by decide : 4 + 0 ≤ _)⟩)
    dsimp only [Pt.U, Pt.locs, Pt.cells, Pt.slots] at X115 l115 y115 z115 st115 hQ115
    subst l115 y115 z115
    obtain ⟨hv115, N115q, e115⟩ := hQ115
    subst hv115
    have N115 := Fr.app N114 N115q
    have pre116 : ∀ t, Steps p.tables e below (T115.setTop (mkF m 106 #[.val (.int p1), .val (.int p2), .val (.int p3), .val (.int p4), .val (.int p5), .val (.ref b101), .val (.int (p2.toInt8.toInt32)), .val (.int fr), .val (.int to), .val (.int (own_find (atv cl) (p2.toInt8.toInt32) (to.toInt - fr.toInt).toNat fr))] [(.int (own_exp (atv cl) fr to (p2.toInt8.toInt32))), (.int (own_find (atv cl) (p2.toInt8.toInt32) (to.toInt - fr.toInt).toNat fr))])) t → Steps p.tables e below (s₁.setTop (entryFrame m #[(.int p1), (.int p2), (.int p3), (.int p4), (.int p5)] maxLocals)) t := fun t9 k9 => pre113 t9 (by
        show Steps p.tables e below (T109.setTop (mkF m 78 #[.val (.int p1), .val (.int p2), .val (.int p3), .val (.int p4), .val (.int p5), .val (.ref b101), .val (.int (p2.toInt8.toInt32)), .val (.int fr), .unset, .unset] [(.int to)])) _
        refine XS.istore X109.here hx rfl (hb hby at_78) rfl (l' := #[.val (.int p1), .val (.int p2), .val (.int p3), .val (.int p4), .val (.int p5), .val (.ref b101), .val (.int (p2.toInt8.toInt32)), .val (.int fr), .val (.int to), .unset]) rfl ?_
        show Steps p.tables e below (T109.setTop (mkF m 80 #[.val (.int p1), .val (.int p2), .val (.int p3), .val (.int p4), .val (.int p5), .val (.ref b101), .val (.int (p2.toInt8.toInt32)), .val (.int fr), .val (.int to), .unset] [])) _
        refine XS.aload X109.here hx rfl (hb hby at_80) rfl rfl ?_
        show Steps p.tables e below (T109.setTop (mkF m 82 #[.val (.int p1), .val (.int p2), .val (.int p3), .val (.int p4), .val (.int p5), .val (.ref b101), .val (.int (p2.toInt8.toInt32)), .val (.int fr), .val (.int to), .unset] [(.ref b101)])) _
        refine XS.iload X109.here hx rfl (hb hby at_82) rfl ?_
        show Steps p.tables e below (T109.setTop (mkF m 84 #[.val (.int p1), .val (.int p2), .val (.int p3), .val (.int p4), .val (.int p5), .val (.ref b101), .val (.int (p2.toInt8.toInt32)), .val (.int fr), .val (.int to), .unset] [(.int fr), (.ref b101)])) _
        refine XS.iload X109.here hx rfl (hb hby at_84) rfl ?_
        show Steps p.tables e below (T109.setTop (mkF m 86 #[.val (.int p1), .val (.int p2), .val (.int p3), .val (.int p4), .val (.int p5), .val (.ref b101), .val (.int (p2.toInt8.toInt32)), .val (.int fr), .val (.int to), .unset] [(.int to), (.int fr), (.ref b101)])) _
        refine XS.iload X109.here hx rfl (hb hby at_86) rfl ?_
        show Steps p.tables e below (T109.setTop (mkF m 88 #[.val (.int p1), .val (.int p2), .val (.int p3), .val (.int p4), .val (.int p5), .val (.ref b101), .val (.int (p2.toInt8.toInt32)), .val (.int fr), .val (.int to), .unset] [(.int (p2.toInt8.toInt32)), (.int to), (.int fr), (.ref b101)])) _
        refine st114 _ ?_
        show Steps p.tables e below (T114.setTop (mkF m 91 #[.val (.int p1), .val (.int p2), .val (.int p3), .val (.int p4), .val (.int p5), .val (.ref b101), .val (.int (p2.toInt8.toInt32)), .val (.int fr), .val (.int to), .unset] [(.int (own_find (atv cl) (p2.toInt8.toInt32) (to.toInt - fr.toInt).toNat fr))])) _
        refine XS.istore X114.here hx rfl (hb hby at_91) rfl (l' := #[.val (.int p1), .val (.int p2), .val (.int p3), .val (.int p4), .val (.int p5), .val (.ref b101), .val (.int (p2.toInt8.toInt32)), .val (.int fr), .val (.int to), .val (.int (own_find (atv cl) (p2.toInt8.toInt32) (to.toInt - fr.toInt).toNat fr))]) rfl ?_
        show Steps p.tables e below (T114.setTop (mkF m 93 #[.val (.int p1), .val (.int p2), .val (.int p3), .val (.int p4), .val (.int p5), .val (.ref b101), .val (.int (p2.toInt8.toInt32)), .val (.int fr), .val (.int to), .val (.int (own_find (atv cl) (p2.toInt8.toInt32) (to.toInt - fr.toInt).toNat fr))] [])) _
        refine XS.iload X114.here hx rfl (hb hby at_93) rfl ?_
        show Steps p.tables e below (T114.setTop (mkF m 95 #[.val (.int p1), .val (.int p2), .val (.int p3), .val (.int p4), .val (.int p5), .val (.ref b101), .val (.int (p2.toInt8.toInt32)), .val (.int fr), .val (.int to), .val (.int (own_find (atv cl) (p2.toInt8.toInt32) (to.toInt - fr.toInt).toNat fr))] [(.int (own_find (atv cl) (p2.toInt8.toInt32) (to.toInt - fr.toInt).toNat fr))])) _
        refine XS.aload X114.here hx rfl (hb hby at_95) rfl rfl ?_
        show Steps p.tables e below (T114.setTop (mkF m 97 #[.val (.int p1), .val (.int p2), .val (.int p3), .val (.int p4), .val (.int p5), .val (.ref b101), .val (.int (p2.toInt8.toInt32)), .val (.int fr), .val (.int to), .val (.int (own_find (atv cl) (p2.toInt8.toInt32) (to.toInt - fr.toInt).toNat fr))] [(.ref b101), (.int (own_find (atv cl) (p2.toInt8.toInt32) (to.toInt - fr.toInt).toNat fr))])) _
        refine XS.iload X114.here hx rfl (hb hby at_97) rfl ?_
        show Steps p.tables e below (T114.setTop (mkF m 99 #[.val (.int p1), .val (.int p2), .val (.int p3), .val (.int p4), .val (.int p5), .val (.ref b101), .val (.int (p2.toInt8.toInt32)), .val (.int fr), .val (.int to), .val (.int (own_find (atv cl) (p2.toInt8.toInt32) (to.toInt - fr.toInt).toNat fr))] [(.int fr), (.ref b101), (.int (own_find (atv cl) (p2.toInt8.toInt32) (to.toInt - fr.toInt).toNat fr))])) _
        refine XS.iload X114.here hx rfl (hb hby at_99) rfl ?_
        show Steps p.tables e below (T114.setTop (mkF m 101 #[.val (.int p1), .val (.int p2), .val (.int p3), .val (.int p4), .val (.int p5), .val (.ref b101), .val (.int (p2.toInt8.toInt32)), .val (.int fr), .val (.int to), .val (.int (own_find (atv cl) (p2.toInt8.toInt32) (to.toInt - fr.toInt).toNat fr))] [(.int to), (.int fr), (.ref b101), (.int (own_find (atv cl) (p2.toInt8.toInt32) (to.toInt - fr.toInt).toNat fr))])) _
        refine XS.iload X114.here hx rfl (hb hby at_101) rfl ?_
        show Steps p.tables e below (T114.setTop (mkF m 103 #[.val (.int p1), .val (.int p2), .val (.int p3), .val (.int p4), .val (.int p5), .val (.ref b101), .val (.int (p2.toInt8.toInt32)), .val (.int fr), .val (.int to), .val (.int (own_find (atv cl) (p2.toInt8.toInt32) (to.toInt - fr.toInt).toNat fr))] [(.int (p2.toInt8.toInt32)), (.int to), (.int fr), (.ref b101), (.int (own_find (atv cl) (p2.toInt8.toInt32) (to.toInt - fr.toInt).toNat fr))])) _
        refine st115 _ ?_
        exact k9)
    have b117 : (own_find (atv cl) (p2.toInt8.toInt32) (to.toInt - fr.toInt).toNat fr).toInt = (own_exp (atv cl) fr to (p2.toInt8.toInt32)).toInt := by rw [own_same _ _ _ _ hf3.1 hs3.1 hs3.2]
    have pre118 : ∀ t, Steps p.tables e below (T115.setTop (mkF m 114 #[.val (.int p1), .val (.int p2), .val (.int p3), .val (.int p4), .val (.int p5), .val (.ref b101), .val (.int (p2.toInt8.toInt32)), .val (.int fr), .val (.int to), .val (.int (own_find (atv cl) (p2.toInt8.toInt32) (to.toInt - fr.toInt).toNat fr))] [(.int (1 : Int32))])) t → Steps p.tables e below (s₁.setTop (entryFrame m #[(.int p1), (.int p2), (.int p3), (.int p4), (.int p5)] maxLocals)) t := fun t9 k9 => pre116 t9 (by
        show Steps p.tables e below (T115.setTop (mkF m 106 #[.val (.int p1), .val (.int p2), .val (.int p3), .val (.int p4), .val (.int p5), .val (.ref b101), .val (.int (p2.toInt8.toInt32)), .val (.int fr), .val (.int to), .val (.int (own_find (atv cl) (p2.toInt8.toInt32) (to.toInt - fr.toInt).toNat fr))] [(.int (own_exp (atv cl) fr to (p2.toInt8.toInt32))), (.int (own_find (atv cl) (p2.toInt8.toInt32) (to.toInt - fr.toInt).toNat fr))])) _
        refine XS.icmpNo X115.here hx rfl (hb hby at_106) rfl (own_ne_f rfl rfl b117) ?_
        show Steps p.tables e below (T115.setTop (mkF m 109 #[.val (.int p1), .val (.int p2), .val (.int p3), .val (.int p4), .val (.int p5), .val (.ref b101), .val (.int (p2.toInt8.toInt32)), .val (.int fr), .val (.int to), .val (.int (own_find (atv cl) (p2.toInt8.toInt32) (to.toInt - fr.toInt).toNat fr))] [])) _
        refine XS.iconst X115.here hx rfl (hb hby at_109) ?_
        show Steps p.tables e below (T115.setTop (mkF m 110 #[.val (.int p1), .val (.int p2), .val (.int p3), .val (.int p4), .val (.int p5), .val (.ref b101), .val (.int (p2.toInt8.toInt32)), .val (.int fr), .val (.int to), .val (.int (own_find (atv cl) (p2.toInt8.toInt32) (to.toInt - fr.toInt).toNat fr))] [(.int (1 : Int32))])) _
        refine XS.goto X115.here hx rfl (pc0 := 110) (pc' := 114) rfl (hb hby at_110) (by decide) (by decide) ?_
        exact k9)
    obtain ⟨fs, hr, hrun, hended, hW, hsame⟩ := X115.leave (v := some (.int (1 : Int32))) (fun h => by rw [Bd.returns] at h; cases h)
    refine ⟨_, _, pre118 _ ?_, hrun, hended, _, _, rfl, ?_, ⟨_, rfl⟩, hW, hsame.mono (by decide) (by decide)⟩
    · show Steps p.tables e below (T115.setTop (mkF m 114 #[.val (.int p1), .val (.int p2), .val (.int p3), .val (.int p4), .val (.int p5), .val (.ref b101), .val (.int (p2.toInt8.toInt32)), .val (.int fr), .val (.int to), .val (.int (own_find (atv cl) (p2.toInt8.toInt32) (to.toInt - fr.toInt).toNat fr))] [(.int (1 : Int32))])) _
      exact retN X115 hx (t := .boolean) Bd.returns (by simp) (hb hby at_114) hr
    · show Q0 Z p1 p2 p3 p4 p5 h0 n0 _ T115.heap _
      rw [e115]
      exact ⟨rfl, N115⟩
  · have pre119 : ∀ t, Steps p.tables e below (T109.setTop (mkF m 63 #[.val (.int p1), .val (.int p2), .val (.int p3), .val (.int p4), .val (.int p5), .val (.ref b101), .val (.int (atv cl (p3 &&& (3 : Int32)))), .unset, .unset, .unset] [(.int ((p4 &&& (2147483647 : Int32)) % (5 : Int32)))])) t → Steps p.tables e below (s₁.setTop (entryFrame m #[(.int p1), (.int p2), (.int p3), (.int p4), (.int p5)] maxLocals)) t := fun t9 k9 => pre110 t9 (by
        show Steps p.tables e below (T109.setTop (mkF m 41 #[.val (.int p1), .val (.int p2), .val (.int p3), .val (.int p4), .val (.int p5), .val (.ref b101), .unset, .unset, .unset, .unset] [(.int (p3 &&& (4 : Int32)))])) _
        refine XS.ifNo X109.here hx rfl (hb hby at_41) rfl ((if0 _ _).trans (own_eq_f rfl (by decide) b111)) ?_
        show Steps p.tables e below (T109.setTop (mkF m 44 #[.val (.int p1), .val (.int p2), .val (.int p3), .val (.int p4), .val (.int p5), .val (.ref b101), .unset, .unset, .unset, .unset] [])) _
        refine XS.aload X109.here hx rfl (hb hby at_44) rfl rfl ?_
        show Steps p.tables e below (T109.setTop (mkF m 46 #[.val (.int p1), .val (.int p2), .val (.int p3), .val (.int p4), .val (.int p5), .val (.ref b101), .unset, .unset, .unset, .unset] [(.ref b101)])) _
        refine XS.iloadN X109.here hx rfl (hb hby at_46) rfl ?_
        show Steps p.tables e below (T109.setTop (mkF m 47 #[.val (.int p1), .val (.int p2), .val (.int p3), .val (.int p4), .val (.int p5), .val (.ref b101), .unset, .unset, .unset, .unset] [(.int p3), (.ref b101)])) _
        refine XS.iconst X109.here hx rfl (hb hby at_47) ?_
        show Steps p.tables e below (T109.setTop (mkF m 48 #[.val (.int p1), .val (.int p2), .val (.int p3), .val (.int p4), .val (.int p5), .val (.ref b101), .unset, .unset, .unset, .unset] [(.int (3 : Int32)), (.int p3), (.ref b101)])) _
        refine XS.iand X109.here hx rfl (hb hby at_48) rfl ?_
        show Steps p.tables e below (T109.setTop (mkF m 49 #[.val (.int p1), .val (.int p2), .val (.int p3), .val (.int p4), .val (.int p5), .val (.ref b101), .unset, .unset, .unset, .unset] [(.int (p3 &&& (3 : Int32))), (.ref b101)])) _
        refine X109.baloadBytes hx (j := (p3 &&& (3 : Int32))) (v := (.int (atv cl (p3 &&& (3 : Int32))))) (by rw [e109]; exact Ar.1) (State.isArrayOf_alike hZ.alike Ar.2.1) Ar.2.2 (hall (p3 &&& (3 : Int32)) hb1.1 (by omega)).1 (hall (p3 &&& (3 : Int32)) hb1.1 (by omega)).2 (g := (mkF m 49 #[.val (.int p1), .val (.int p2), .val (.int p3), .val (.int p4), .val (.int p5), .val (.ref b101), .unset, .unset, .unset, .unset] [(.int (p3 &&& (3 : Int32))), (.ref b101)])) rfl rfl (hb hby at_49) _ ?_
        show Steps p.tables e below (T109.setTop (mkF m 50 #[.val (.int p1), .val (.int p2), .val (.int p3), .val (.int p4), .val (.int p5), .val (.ref b101), .unset, .unset, .unset, .unset] [(.int (atv cl (p3 &&& (3 : Int32))))])) _
        refine XS.goto X109.here hx rfl (pc0 := 50) (pc' := 55) rfl (hb hby at_50) (by decide) (by decide) ?_
        show Steps p.tables e below (T109.setTop (mkF m 55 #[.val (.int p1), .val (.int p2), .val (.int p3), .val (.int p4), .val (.int p5), .val (.ref b101), .unset, .unset, .unset, .unset] [(.int (atv cl (p3 &&& (3 : Int32))))])) _
        refine XS.istore X109.here hx rfl (hb hby at_55) rfl (l' := #[.val (.int p1), .val (.int p2), .val (.int p3), .val (.int p4), .val (.int p5), .val (.ref b101), .val (.int (atv cl (p3 &&& (3 : Int32)))), .unset, .unset, .unset]) rfl ?_
        show Steps p.tables e below (T109.setTop (mkF m 57 #[.val (.int p1), .val (.int p2), .val (.int p3), .val (.int p4), .val (.int p5), .val (.ref b101), .val (.int (atv cl (p3 &&& (3 : Int32)))), .unset, .unset, .unset] [])) _
        refine XS.iloadN X109.here hx rfl (hb hby at_57) rfl ?_
        show Steps p.tables e below (T109.setTop (mkF m 58 #[.val (.int p1), .val (.int p2), .val (.int p3), .val (.int p4), .val (.int p5), .val (.ref b101), .val (.int (atv cl (p3 &&& (3 : Int32)))), .unset, .unset, .unset] [(.int p4)])) _
        refine X109.ldcInt hx hown (mvT hZ (hw _ (List.mem_of_getElem? (i := 1) rfl))) (g := (mkF m 58 #[.val (.int p1), .val (.int p2), .val (.int p3), .val (.int p4), .val (.int p5), .val (.ref b101), .val (.int (atv cl (p3 &&& (3 : Int32)))), .unset, .unset, .unset] [(.int p4)])) rfl (hb hby at_58) _ ?_
        show Steps p.tables e below (T109.setTop (mkF m 60 #[.val (.int p1), .val (.int p2), .val (.int p3), .val (.int p4), .val (.int p5), .val (.ref b101), .val (.int (atv cl (p3 &&& (3 : Int32)))), .unset, .unset, .unset] [(.int (2147483647 : Int32)), (.int p4)])) _
        refine XS.iand X109.here hx rfl (hb hby at_60) rfl ?_
        show Steps p.tables e below (T109.setTop (mkF m 61 #[.val (.int p1), .val (.int p2), .val (.int p3), .val (.int p4), .val (.int p5), .val (.ref b101), .val (.int (atv cl (p3 &&& (3 : Int32)))), .unset, .unset, .unset] [(.int (p4 &&& (2147483647 : Int32)))])) _
        refine XS.iconst X109.here hx rfl (hb hby at_61) ?_
        show Steps p.tables e below (T109.setTop (mkF m 62 #[.val (.int p1), .val (.int p2), .val (.int p3), .val (.int p4), .val (.int p5), .val (.ref b101), .val (.int (atv cl (p3 &&& (3 : Int32)))), .unset, .unset, .unset] [(.int (5 : Int32)), (.int (p4 &&& (2147483647 : Int32)))])) _
        refine iremM X109 hx rfl (hb hby at_62) rfl (by decide) ?_
        exact k9)
    obtain ⟨fr, h_fr⟩ : ∃ z, ((p4 &&& (2147483647 : Int32)) % (5 : Int32)) = z := ⟨_, rfl⟩
    rw [h_fr] at pre119 hf3
    clear hf2
    have hd1 := c_isub (5 : Int32) fr
    have hd2 := rng32 ((5 : Int32) - fr)
    have hd3 : ((5 : Int32) - fr).toInt = 5 - fr.toInt := by omega
    have hnz : (5 : Int32) - fr ≠ 0 := fun q => by
      have z : ((5 : Int32) - fr).toInt = 0 := by rw [q]; decide
      omega
    have hr1 := (c_iremV (p5 &&& (2147483647 : Int32)) ((5 : Int32) - fr)).1 ht1.1 (by omega)
    have hs1 := c_iadd fr ((p5 &&& (2147483647 : Int32)) % ((5 : Int32) - fr))
    have hs2 := rng32 (fr + ((p5 &&& (2147483647 : Int32)) % ((5 : Int32) - fr)))
    have hs3 : fr.toInt ≤ (fr + ((p5 &&& (2147483647 : Int32)) % ((5 : Int32) - fr))).toInt ∧ (fr + ((p5 &&& (2147483647 : Int32)) % ((5 : Int32) - fr))).toInt ≤ 4 := by omega
    have pre120 : ∀ t, Steps p.tables e below (T109.setTop (mkF m 78 #[.val (.int p1), .val (.int p2), .val (.int p3), .val (.int p4), .val (.int p5), .val (.ref b101), .val (.int (atv cl (p3 &&& (3 : Int32)))), .val (.int fr), .unset, .unset] [(.int (fr + ((p5 &&& (2147483647 : Int32)) % ((5 : Int32) - fr))))])) t → Steps p.tables e below (s₁.setTop (entryFrame m #[(.int p1), (.int p2), (.int p3), (.int p4), (.int p5)] maxLocals)) t := fun t9 k9 => pre119 t9 (by
        show Steps p.tables e below (T109.setTop (mkF m 63 #[.val (.int p1), .val (.int p2), .val (.int p3), .val (.int p4), .val (.int p5), .val (.ref b101), .val (.int (atv cl (p3 &&& (3 : Int32)))), .unset, .unset, .unset] [(.int fr)])) _
        refine XS.istore X109.here hx rfl (hb hby at_63) rfl (l' := #[.val (.int p1), .val (.int p2), .val (.int p3), .val (.int p4), .val (.int p5), .val (.ref b101), .val (.int (atv cl (p3 &&& (3 : Int32)))), .val (.int fr), .unset, .unset]) rfl ?_
        show Steps p.tables e below (T109.setTop (mkF m 65 #[.val (.int p1), .val (.int p2), .val (.int p3), .val (.int p4), .val (.int p5), .val (.ref b101), .val (.int (atv cl (p3 &&& (3 : Int32)))), .val (.int fr), .unset, .unset] [])) _
        refine XS.iload X109.here hx rfl (hb hby at_65) rfl ?_
        show Steps p.tables e below (T109.setTop (mkF m 67 #[.val (.int p1), .val (.int p2), .val (.int p3), .val (.int p4), .val (.int p5), .val (.ref b101), .val (.int (atv cl (p3 &&& (3 : Int32)))), .val (.int fr), .unset, .unset] [(.int fr)])) _
        refine XS.iload X109.here hx rfl (hb hby at_67) rfl ?_
        show Steps p.tables e below (T109.setTop (mkF m 69 #[.val (.int p1), .val (.int p2), .val (.int p3), .val (.int p4), .val (.int p5), .val (.ref b101), .val (.int (atv cl (p3 &&& (3 : Int32)))), .val (.int fr), .unset, .unset] [(.int p5), (.int fr)])) _
        refine X109.ldcInt hx hown (mvT hZ (hw _ (List.mem_of_getElem? (i := 1) rfl))) (g := (mkF m 69 #[.val (.int p1), .val (.int p2), .val (.int p3), .val (.int p4), .val (.int p5), .val (.ref b101), .val (.int (atv cl (p3 &&& (3 : Int32)))), .val (.int fr), .unset, .unset] [(.int p5), (.int fr)])) rfl (hb hby at_69) _ ?_
        show Steps p.tables e below (T109.setTop (mkF m 71 #[.val (.int p1), .val (.int p2), .val (.int p3), .val (.int p4), .val (.int p5), .val (.ref b101), .val (.int (atv cl (p3 &&& (3 : Int32)))), .val (.int fr), .unset, .unset] [(.int (2147483647 : Int32)), (.int p5), (.int fr)])) _
        refine XS.iand X109.here hx rfl (hb hby at_71) rfl ?_
        show Steps p.tables e below (T109.setTop (mkF m 72 #[.val (.int p1), .val (.int p2), .val (.int p3), .val (.int p4), .val (.int p5), .val (.ref b101), .val (.int (atv cl (p3 &&& (3 : Int32)))), .val (.int fr), .unset, .unset] [(.int (p5 &&& (2147483647 : Int32))), (.int fr)])) _
        refine XS.iconst X109.here hx rfl (hb hby at_72) ?_
        show Steps p.tables e below (T109.setTop (mkF m 73 #[.val (.int p1), .val (.int p2), .val (.int p3), .val (.int p4), .val (.int p5), .val (.ref b101), .val (.int (atv cl (p3 &&& (3 : Int32)))), .val (.int fr), .unset, .unset] [(.int (5 : Int32)), (.int (p5 &&& (2147483647 : Int32))), (.int fr)])) _
        refine XS.iload X109.here hx rfl (hb hby at_73) rfl ?_
        show Steps p.tables e below (T109.setTop (mkF m 75 #[.val (.int p1), .val (.int p2), .val (.int p3), .val (.int p4), .val (.int p5), .val (.ref b101), .val (.int (atv cl (p3 &&& (3 : Int32)))), .val (.int fr), .unset, .unset] [(.int fr), (.int (5 : Int32)), (.int (p5 &&& (2147483647 : Int32))), (.int fr)])) _
        refine XS.isub X109.here hx rfl (hb hby at_75) rfl ?_
        show Steps p.tables e below (T109.setTop (mkF m 76 #[.val (.int p1), .val (.int p2), .val (.int p3), .val (.int p4), .val (.int p5), .val (.ref b101), .val (.int (atv cl (p3 &&& (3 : Int32)))), .val (.int fr), .unset, .unset] [(.int ((5 : Int32) - fr)), (.int (p5 &&& (2147483647 : Int32))), (.int fr)])) _
        refine iremM X109 hx rfl (hb hby at_76) rfl hnz ?_
        show Steps p.tables e below (T109.setTop (mkF m 77 #[.val (.int p1), .val (.int p2), .val (.int p3), .val (.int p4), .val (.int p5), .val (.ref b101), .val (.int (atv cl (p3 &&& (3 : Int32)))), .val (.int fr), .unset, .unset] [(.int ((p5 &&& (2147483647 : Int32)) % ((5 : Int32) - fr))), (.int fr)])) _
        refine XS.iadd X109.here hx rfl (hb hby at_77) rfl ?_
        exact k9)
    obtain ⟨to, h_to⟩ : ∃ z, (fr + ((p5 &&& (2147483647 : Int32)) % ((5 : Int32) - fr))) = z := ⟨_, rfl⟩
    rw [h_to] at pre120 hs3
    obtain ⟨_, _, ⟨T121, L121, k121, n121⟩, -, X121, ⟨Lc121, hQ121, l121, y121, z121⟩, st121⟩ := Jvm.LawKit.callS X109 hx (y := (⟨"com/example/trank/trank/ByteRuns", "indexOf", "([BIIB)I"⟩ : MethodName)) hown (mvT hZ (hw _ (List.mem_of_getElem? (i := 2) rfl))) (mvT hZ (hw _ (List.mem_of_getElem? (i := 3) rfl))) (mvT hZ (hw _ (List.mem_of_getElem? (i := 4) rfl))) (mvT hZ (hw _ (List.mem_of_getElem? (i := 5) rfl))) (by decide) (backOf (W := 0) (rm1 l Z a0 hw [] b101 fr to (atv cl (p3 &&& (3 : Int32))) cl h109 n0 Z109 Ar hall hf3.1 hs3.1 hs3.2) hZ (hw _ (List.mem_of_getElem? (i := 5) rfl)) (hw _ (List.mem_of_getElem? (i := 4) rfl)) (by decide) (by decide)) (g := (mkF m 88 #[.val (.int p1), .val (.int p2), .val (.int p3), .val (.int p4), .val (.int p5), .val (.ref b101), .val (.int (atv cl (p3 &&& (3 : Int32)))), .val (.int fr), .val (.int to), .unset] [(.int (atv cl (p3 &&& (3 : Int32)))), (.int to), (.int fr), (.ref b101)])) rfl (by rw [hml]; rfl) (argsL := [(.ref b101), (.int fr), (.int to), (.int (atv cl (p3 &&& (3 : Int32))))]) (rest := []) (lenOf pd_0_0 rfl) rfl (by show 2 * 0 + _ ≤ _; exact Nat.le_of_eq rfl) (hb hby at_88) (fun _ _ => ⟨rfl, e109, (by decide : 1 + 0 ≤ _), (by decide : 4 + 0 ≤ _)⟩)
    dsimp only [Pt.U, Pt.locs, Pt.cells, Pt.slots] at X121 l121 y121 z121 st121 hQ121
    subst l121 y121 z121
    obtain ⟨hv121, N121q, e121⟩ := hQ121
    subst hv121
    have N121 := Fr.app N109 N121q
    obtain ⟨_, _, ⟨T122, L122, k122, n122⟩, -, X122, ⟨Lc122, hQ122, l122, y122, z122⟩, st122⟩ := Jvm.LawKit.callS X121 hx (y := (⟨"com/example/trank/trank/ByteRunsIndexOfPinLaw", "expected", "([BIIB)I"⟩ : MethodName)) hown (mvT hZ (hw _ (List.mem_of_getElem? (i := 6) rfl))) (mvT hZ (hw _ (List.mem_of_getElem? (i := 7) rfl))) (mvT hZ (hw _ (List.mem_of_getElem? (i := 8) rfl))) (mvT hZ (hw _ (List.mem_of_getElem? (i := 9) rfl))) (by decide) (backOf (W := 1) (rm2 l Z a0 hw [] b101 fr to (atv cl (p3 &&& (3 : Int32))) cl h109 n0 Z109 Ar hall) hZ (hw _ (List.mem_of_getElem? (i := 9) rfl)) (hw _ (List.mem_of_getElem? (i := 8) rfl)) (by decide) (by decide)) (g := (mkF m 103 #[.val (.int p1), .val (.int p2), .val (.int p3), .val (.int p4), .val (.int p5), .val (.ref b101), .val (.int (atv cl (p3 &&& (3 : Int32)))), .val (.int fr), .val (.int to), .val (.int (own_find (atv cl) (atv cl (p3 &&& (3 : Int32))) (to.toInt - fr.toInt).toNat fr))] [(.int (atv cl (p3 &&& (3 : Int32)))), (.int to), (.int fr), (.ref b101), (.int (own_find (atv cl) (atv cl (p3 &&& (3 : Int32))) (to.toInt - fr.toInt).toNat fr))])) rfl (by rw [hml]; rfl) (argsL := [(.ref b101), (.int fr), (.int to), (.int (atv cl (p3 &&& (3 : Int32))))]) (rest := [(.int (own_find (atv cl) (atv cl (p3 &&& (3 : Int32))) (to.toInt - fr.toInt).toNat fr))]) (lenOf pd_0_0 rfl) rfl (by show 2 * 0 + _ ≤ _; exact Nat.le_of_eq rfl) (hb hby at_103) (fun _ _ => ⟨rfl, e121, (by decide : 1 + 0 ≤ _), (by decide : 4 + 0 ≤ _)⟩)
    dsimp only [Pt.U, Pt.locs, Pt.cells, Pt.slots] at X122 l122 y122 z122 st122 hQ122
    subst l122 y122 z122
    obtain ⟨hv122, N122q, e122⟩ := hQ122
    subst hv122
    have N122 := Fr.app N121 N122q
    have pre123 : ∀ t, Steps p.tables e below (T122.setTop (mkF m 106 #[.val (.int p1), .val (.int p2), .val (.int p3), .val (.int p4), .val (.int p5), .val (.ref b101), .val (.int (atv cl (p3 &&& (3 : Int32)))), .val (.int fr), .val (.int to), .val (.int (own_find (atv cl) (atv cl (p3 &&& (3 : Int32))) (to.toInt - fr.toInt).toNat fr))] [(.int (own_exp (atv cl) fr to (atv cl (p3 &&& (3 : Int32))))), (.int (own_find (atv cl) (atv cl (p3 &&& (3 : Int32))) (to.toInt - fr.toInt).toNat fr))])) t → Steps p.tables e below (s₁.setTop (entryFrame m #[(.int p1), (.int p2), (.int p3), (.int p4), (.int p5)] maxLocals)) t := fun t9 k9 => pre120 t9 (by
        show Steps p.tables e below (T109.setTop (mkF m 78 #[.val (.int p1), .val (.int p2), .val (.int p3), .val (.int p4), .val (.int p5), .val (.ref b101), .val (.int (atv cl (p3 &&& (3 : Int32)))), .val (.int fr), .unset, .unset] [(.int to)])) _
        refine XS.istore X109.here hx rfl (hb hby at_78) rfl (l' := #[.val (.int p1), .val (.int p2), .val (.int p3), .val (.int p4), .val (.int p5), .val (.ref b101), .val (.int (atv cl (p3 &&& (3 : Int32)))), .val (.int fr), .val (.int to), .unset]) rfl ?_
        show Steps p.tables e below (T109.setTop (mkF m 80 #[.val (.int p1), .val (.int p2), .val (.int p3), .val (.int p4), .val (.int p5), .val (.ref b101), .val (.int (atv cl (p3 &&& (3 : Int32)))), .val (.int fr), .val (.int to), .unset] [])) _
        refine XS.aload X109.here hx rfl (hb hby at_80) rfl rfl ?_
        show Steps p.tables e below (T109.setTop (mkF m 82 #[.val (.int p1), .val (.int p2), .val (.int p3), .val (.int p4), .val (.int p5), .val (.ref b101), .val (.int (atv cl (p3 &&& (3 : Int32)))), .val (.int fr), .val (.int to), .unset] [(.ref b101)])) _
        refine XS.iload X109.here hx rfl (hb hby at_82) rfl ?_
        show Steps p.tables e below (T109.setTop (mkF m 84 #[.val (.int p1), .val (.int p2), .val (.int p3), .val (.int p4), .val (.int p5), .val (.ref b101), .val (.int (atv cl (p3 &&& (3 : Int32)))), .val (.int fr), .val (.int to), .unset] [(.int fr), (.ref b101)])) _
        refine XS.iload X109.here hx rfl (hb hby at_84) rfl ?_
        show Steps p.tables e below (T109.setTop (mkF m 86 #[.val (.int p1), .val (.int p2), .val (.int p3), .val (.int p4), .val (.int p5), .val (.ref b101), .val (.int (atv cl (p3 &&& (3 : Int32)))), .val (.int fr), .val (.int to), .unset] [(.int to), (.int fr), (.ref b101)])) _
        refine XS.iload X109.here hx rfl (hb hby at_86) rfl ?_
        show Steps p.tables e below (T109.setTop (mkF m 88 #[.val (.int p1), .val (.int p2), .val (.int p3), .val (.int p4), .val (.int p5), .val (.ref b101), .val (.int (atv cl (p3 &&& (3 : Int32)))), .val (.int fr), .val (.int to), .unset] [(.int (atv cl (p3 &&& (3 : Int32)))), (.int to), (.int fr), (.ref b101)])) _
        refine st121 _ ?_
        show Steps p.tables e below (T121.setTop (mkF m 91 #[.val (.int p1), .val (.int p2), .val (.int p3), .val (.int p4), .val (.int p5), .val (.ref b101), .val (.int (atv cl (p3 &&& (3 : Int32)))), .val (.int fr), .val (.int to), .unset] [(.int (own_find (atv cl) (atv cl (p3 &&& (3 : Int32))) (to.toInt - fr.toInt).toNat fr))])) _
        refine XS.istore X121.here hx rfl (hb hby at_91) rfl (l' := #[.val (.int p1), .val (.int p2), .val (.int p3), .val (.int p4), .val (.int p5), .val (.ref b101), .val (.int (atv cl (p3 &&& (3 : Int32)))), .val (.int fr), .val (.int to), .val (.int (own_find (atv cl) (atv cl (p3 &&& (3 : Int32))) (to.toInt - fr.toInt).toNat fr))]) rfl ?_
        show Steps p.tables e below (T121.setTop (mkF m 93 #[.val (.int p1), .val (.int p2), .val (.int p3), .val (.int p4), .val (.int p5), .val (.ref b101), .val (.int (atv cl (p3 &&& (3 : Int32)))), .val (.int fr), .val (.int to), .val (.int (own_find (atv cl) (atv cl (p3 &&& (3 : Int32))) (to.toInt - fr.toInt).toNat fr))] [])) _
        refine XS.iload X121.here hx rfl (hb hby at_93) rfl ?_
        show Steps p.tables e below (T121.setTop (mkF m 95 #[.val (.int p1), .val (.int p2), .val (.int p3), .val (.int p4), .val (.int p5), .val (.ref b101), .val (.int (atv cl (p3 &&& (3 : Int32)))), .val (.int fr), .val (.int to), .val (.int (own_find (atv cl) (atv cl (p3 &&& (3 : Int32))) (to.toInt - fr.toInt).toNat fr))] [(.int (own_find (atv cl) (atv cl (p3 &&& (3 : Int32))) (to.toInt - fr.toInt).toNat fr))])) _
        refine XS.aload X121.here hx rfl (hb hby at_95) rfl rfl ?_
        show Steps p.tables e below (T121.setTop (mkF m 97 #[.val (.int p1), .val (.int p2), .val (.int p3), .val (.int p4), .val (.int p5), .val (.ref b101), .val (.int (atv cl (p3 &&& (3 : Int32)))), .val (.int fr), .val (.int to), .val (.int (own_find (atv cl) (atv cl (p3 &&& (3 : Int32))) (to.toInt - fr.toInt).toNat fr))] [(.ref b101), (.int (own_find (atv cl) (atv cl (p3 &&& (3 : Int32))) (to.toInt - fr.toInt).toNat fr))])) _
        refine XS.iload X121.here hx rfl (hb hby at_97) rfl ?_
        show Steps p.tables e below (T121.setTop (mkF m 99 #[.val (.int p1), .val (.int p2), .val (.int p3), .val (.int p4), .val (.int p5), .val (.ref b101), .val (.int (atv cl (p3 &&& (3 : Int32)))), .val (.int fr), .val (.int to), .val (.int (own_find (atv cl) (atv cl (p3 &&& (3 : Int32))) (to.toInt - fr.toInt).toNat fr))] [(.int fr), (.ref b101), (.int (own_find (atv cl) (atv cl (p3 &&& (3 : Int32))) (to.toInt - fr.toInt).toNat fr))])) _
        refine XS.iload X121.here hx rfl (hb hby at_99) rfl ?_
        show Steps p.tables e below (T121.setTop (mkF m 101 #[.val (.int p1), .val (.int p2), .val (.int p3), .val (.int p4), .val (.int p5), .val (.ref b101), .val (.int (atv cl (p3 &&& (3 : Int32)))), .val (.int fr), .val (.int to), .val (.int (own_find (atv cl) (atv cl (p3 &&& (3 : Int32))) (to.toInt - fr.toInt).toNat fr))] [(.int to), (.int fr), (.ref b101), (.int (own_find (atv cl) (atv cl (p3 &&& (3 : Int32))) (to.toInt - fr.toInt).toNat fr))])) _
        refine XS.iload X121.here hx rfl (hb hby at_101) rfl ?_
        show Steps p.tables e below (T121.setTop (mkF m 103 #[.val (.int p1), .val (.int p2), .val (.int p3), .val (.int p4), .val (.int p5), .val (.ref b101), .val (.int (atv cl (p3 &&& (3 : Int32)))), .val (.int fr), .val (.int to), .val (.int (own_find (atv cl) (atv cl (p3 &&& (3 : Int32))) (to.toInt - fr.toInt).toNat fr))] [(.int (atv cl (p3 &&& (3 : Int32)))), (.int to), (.int fr), (.ref b101), (.int (own_find (atv cl) (atv cl (p3 &&& (3 : Int32))) (to.toInt - fr.toInt).toNat fr))])) _
        refine st122 _ ?_
        exact k9)
    have b124 : (own_find (atv cl) (atv cl (p3 &&& (3 : Int32))) (to.toInt - fr.toInt).toNat fr).toInt = (own_exp (atv cl) fr to (atv cl (p3 &&& (3 : Int32)))).toInt := by rw [own_same _ _ _ _ hf3.1 hs3.1 hs3.2]
    have pre125 : ∀ t, Steps p.tables e below (T122.setTop (mkF m 114 #[.val (.int p1), .val (.int p2), .val (.int p3), .val (.int p4), .val (.int p5), .val (.ref b101), .val (.int (atv cl (p3 &&& (3 : Int32)))), .val (.int fr), .val (.int to), .val (.int (own_find (atv cl) (atv cl (p3 &&& (3 : Int32))) (to.toInt - fr.toInt).toNat fr))] [(.int (1 : Int32))])) t → Steps p.tables e below (s₁.setTop (entryFrame m #[(.int p1), (.int p2), (.int p3), (.int p4), (.int p5)] maxLocals)) t := fun t9 k9 => pre123 t9 (by
        show Steps p.tables e below (T122.setTop (mkF m 106 #[.val (.int p1), .val (.int p2), .val (.int p3), .val (.int p4), .val (.int p5), .val (.ref b101), .val (.int (atv cl (p3 &&& (3 : Int32)))), .val (.int fr), .val (.int to), .val (.int (own_find (atv cl) (atv cl (p3 &&& (3 : Int32))) (to.toInt - fr.toInt).toNat fr))] [(.int (own_exp (atv cl) fr to (atv cl (p3 &&& (3 : Int32))))), (.int (own_find (atv cl) (atv cl (p3 &&& (3 : Int32))) (to.toInt - fr.toInt).toNat fr))])) _
        refine XS.icmpNo X122.here hx rfl (hb hby at_106) rfl (own_ne_f rfl rfl b124) ?_
        show Steps p.tables e below (T122.setTop (mkF m 109 #[.val (.int p1), .val (.int p2), .val (.int p3), .val (.int p4), .val (.int p5), .val (.ref b101), .val (.int (atv cl (p3 &&& (3 : Int32)))), .val (.int fr), .val (.int to), .val (.int (own_find (atv cl) (atv cl (p3 &&& (3 : Int32))) (to.toInt - fr.toInt).toNat fr))] [])) _
        refine XS.iconst X122.here hx rfl (hb hby at_109) ?_
        show Steps p.tables e below (T122.setTop (mkF m 110 #[.val (.int p1), .val (.int p2), .val (.int p3), .val (.int p4), .val (.int p5), .val (.ref b101), .val (.int (atv cl (p3 &&& (3 : Int32)))), .val (.int fr), .val (.int to), .val (.int (own_find (atv cl) (atv cl (p3 &&& (3 : Int32))) (to.toInt - fr.toInt).toNat fr))] [(.int (1 : Int32))])) _
        refine XS.goto X122.here hx rfl (pc0 := 110) (pc' := 114) rfl (hb hby at_110) (by decide) (by decide) ?_
        exact k9)
    obtain ⟨fs, hr, hrun, hended, hW, hsame⟩ := X122.leave (v := some (.int (1 : Int32))) (fun h => by rw [Bd.returns] at h; cases h)
    refine ⟨_, _, pre125 _ ?_, hrun, hended, _, _, rfl, ?_, ⟨_, rfl⟩, hW, hsame.mono (by decide) (by decide)⟩
    · show Steps p.tables e below (T122.setTop (mkF m 114 #[.val (.int p1), .val (.int p2), .val (.int p3), .val (.int p4), .val (.int p5), .val (.ref b101), .val (.int (atv cl (p3 &&& (3 : Int32)))), .val (.int fr), .val (.int to), .val (.int (own_find (atv cl) (atv cl (p3 &&& (3 : Int32))) (to.toInt - fr.toInt).toNat fr))] [(.int (1 : Int32))])) _
      exact retN X122 hx (t := .boolean) Bd.returns (by simp) (hb hby at_114) hr
    · show Q0 Z p1 p2 p3 p4 p5 h0 n0 _ T122.heap _
      rw [e122]
      exact ⟨rfl, N122⟩
set_option maxRecDepth 65536 in
set_option maxHeartbeats 40000000 in
theorem comes_1 {Post : Tables → Env → Array Value → State → Outcome → State → Prop} (hpost : ∀ tb e args s v u, (limb_1_1.after args s (.returned v) u = true ∧ limb_1_2.after args s (.returned v) u = true ∧ True) → FrameEnd s (.returned v) u (Jvm.fieldLocs frame_1_writes args s ++ Jvm.arrayLocs frame_1_arrays args s ++ Jvm.staticLocs frame_1_statics s) 16 128 → Post tb e args s (.returned v) u) :
    ArmFor flags0 classFile x code maxLocals ret World_1 tables_1 room_1 Calls_1 rest_1 Pre_1 Post := by
  intro l hfl _ _ p e ha hc hk s m args below hf hA hF happ hP
  obtain ⟨hcalls, hrest, hpre⟩ := hP
  obtain ⟨-, -, -, hnamed, -, -, -, hat⟩ := (Spec.applies_iff hf).mp happ
  obtain ⟨hg, hn⟩ := and_e (Cond.before_iff.mp (show (Jvm.Cond.and given_1 narrow_1).before args s = true from hpre))
  obtain ⟨gc, g0⟩ := and_e hg
  obtain ⟨ga0, g1⟩ := and_e g0
  obtain ⟨ga1, g2⟩ := and_e g1
  obtain ⟨ga2, g3⟩ := and_e g2
  obtain ⟨ga3, g4⟩ := and_e g3
  obtain ⟨w0, w1, w2, w3, w4, rfl⟩ : ∃ w0 w1 w2 w3 w4 : Value, args = #[w0, w1, w2, w3, w4] := by
    have hs : args.size = 5 := by simpa [Cond.value, given_1] using gc
    obtain ⟨L⟩ := args
    match L, hs with
    | [w0, w1, w2, w3, w4], _ => exact ⟨w0, w1, w2, w3, w4, rfl⟩
  have hw := fun d (hd : d ∈ tables_1) => atoms_spec (ws := Jvm.Cond.code x code maxLocals ret :: tables_1) hat d (List.mem_cons_of_mem _ hd)
  obtain ⟨i0, ei0⟩ := is_v ga0
  obtain rfl : w0 = (.int i0) := Option.some.inj ei0
  obtain ⟨i1, ei1⟩ := is_v ga1
  obtain rfl : w1 = (.int i1) := Option.some.inj ei1
  obtain ⟨i2, ei2⟩ := is_v ga2
  obtain rfl : w2 = (.int i2) := Option.some.inj ei2
  obtain ⟨i3, ei3⟩ := is_v ga3
  obtain rfl : w3 = (.int i3) := Option.some.inj ei3
  obtain ⟨i4, ei4⟩ := is_v g4
  obtain rfl : w4 = (.int i4) := Option.some.inj ei4
  obtain ⟨n, o, h1, h2, h3, _, L, rfl, ⟨rfl, N⟩, hq⟩ := rm0 l s _ hw tables_1 i0 i1 i2 i3 i4 s.heap s.heap.size (Nat.le_refl _) p e ha hc hk s m _ below hf ((Spec.applies_iff_loose hf).mp happ).1 ⟨rfl, State.Warmed39.refl s, rfl⟩ trivial
  refine ⟨n, _, h1, h2, h3, hpost _ _ _ _ _ _ ⟨Cond.after_iff.mpr rfl, Cond.after_iff.mpr (eq_i res_at (Term.int_eval (1)) rfl), trivial⟩ ⟨hq.1, hq.2.1, (hq.2.2.sift fun y hy => Or.inr (N y hy)).mono (by decide) (by decide)⟩⟩
theorem main_1_1 : Claimed_1_1 := comes_1 fun _ _ _ _ _ _ h hF => ⟨h.1, hF⟩
theorem main_1_2 : Claimed_1_2 := comes_1 fun _ _ _ _ _ _ h hF => ⟨h.2.1, hF⟩
end Jvm.Pilot.@@N@@
namespace Jvm.Pilot.@@N@@
open Jvm Jvm.ClassFile Sem Op Lib Jvm.Free Jvm.Stand Jvm.Pilot.@@N@@.Jvm.D
/-! MADE BY PROGRAM (witnessworld.py) out of the Statement's table words and the real class files: 7 classes; the members and pool entries that the words name. The judged class is class 1, her method 1. -/
namespace start1
open Jvm.ClassFile
def u (s : String) : CpInfo := .utf8 (stringToUtf16 s)
/-- a pool by its gaps: so many unusable entries, then the entry; so many at the end -/
def gap : Nat → List CpInfo → List CpInfo
  | 0, r => r
  | n + 1, r => .unusable :: gap n r
def poolList (es : List (Nat × CpInfo)) (last : Nat) : List CpInfo := es.foldr (fun e r => gap e.1 (e.2 :: r)) (gap last [])
def pool (es : List (Nat × CpInfo)) (last : Nat) : Array CpInfo := ⟨poolList es last⟩
def fileOf (pool : Array CpInfo) (this : Nat) (attrs : Array Attribute := #[]) (ms : Array MethodInfo := #[]) (fl : Nat := 33) (sup : Nat := 0) (ifs : Array Nat := #[]) (fds : Array FieldInfo := #[]) : ClassFile where
  minorVersion := 0
  majorVersion := 65
  constantPool := pool
  accessFlags := fl
  thisClass := this
  superClass := sup
  interfaces := ifs
  fields := fds
  methods := ms
  attributes := attrs
def plain (name : String) (sup : Option ClassId) : Class where
  name := name
  kind := .ordinary
  loader := none
  accessFlags := 33
  super := sup
  interfaces := #[]
  cf := none
  fields := #[]
  methods := #[]
  instanceTypes := #[]
  staticTypes := #[]
  resolved := #[]
  callSites := []
  init := .initialized
  statics := none
  mirror := none

def pool0 : Array CpInfo := pool [(5, u "<init>"), (0, u "()V"), (1, .class_ 10), (1, u "java/lang/Object")] 113

def k0m0 : Method := { name := "<init>", desc := "()V", sig := { parameters := [], returnType := none }, accessFlags := 1, code := none }
/-- java/lang/Object -/
def k0 : Class := { plain "java/lang/Object" none with
  accessFlags := 33
  interfaces := #[]
  cf := some (fileOf pool0 8 #[] #[{ accessFlags := 1, nameIndex := 5, descriptorIndex := 6, attributes := #[] }] 33 0 #[] #[])
  fields := #[]
  methods := #[k0m0]
  instanceTypes := #[]
  staticTypes := #[]
  resolved := Array.replicate 124 none
  statics := none }

def pool1 : Array CpInfo := pool [(2, .class_ 4), (1, u "java/lang/Object"), (0, u "<init>"), (0, u "()V"), (0, .integer 2147483647), (0, .methodref 9 10), (0, .class_ 11), (0, .nameAndType 12 13), (0, u "com/example/trank/trank/ByteRuns"), (0, u "indexOf"), (0, u "([BIIB)I"), (0, .methodref 15 16), (0, .class_ 17), (0, .nameAndType 18 13), (0, u "com/example/trank/trank/ByteRunsIndexOfPinLaw"), (0, u "expected"), (2, u "law"), (0, u "(IIIII)Z")] 5

def k1m0 : Method := { name := "<init>", desc := "()V", sig := { parameters := [], returnType := none }, accessFlags := 2, code := none }
def k1c1 : Code := { maxStack := 5, maxLocals := 10, code := code, exceptionTable := #[], attributes := #[] }
def k1m1 : Method := { name := "law", desc := "(IIIII)Z", sig := { parameters := [.int, .int, .int, .int, .int], returnType := some .boolean }, accessFlags := 9, code := some k1c1 }
def k1c2 : Code := { maxStack := 2, maxLocals := 4, code := method_3_code, exceptionTable := #[], attributes := #[] }
def k1m2 : Method := { name := "expected", desc := "([BIIB)I", sig := { parameters := [(.array .byte), .int, .int, .byte], returnType := some .int }, accessFlags := 10, code := some k1c2 }
/-- com/example/trank/trank/ByteRunsIndexOfPinLaw -/
def k1 : Class := { plain "com/example/trank/trank/ByteRunsIndexOfPinLaw" (some 0) with
  accessFlags := 49
  interfaces := #[]
  cf := some (fileOf pool1 15 #[] #[{ accessFlags := 2, nameIndex := 5, descriptorIndex := 6, attributes := #[] }, { accessFlags := 9, nameIndex := 21, descriptorIndex := 22, attributes := #[] }, { accessFlags := 10, nameIndex := 18, descriptorIndex := 13, attributes := #[] }] 49 2 #[] #[])
  fields := #[]
  methods := #[k1m0, k1m1, k1m2]
  instanceTypes := #[]
  staticTypes := #[]
  resolved := Array.replicate 28 none
  statics := none }

def pool2 : Array CpInfo := pool [(2, .class_ 4), (1, u "java/lang/Object"), (0, u "<init>"), (0, u "()V"), (1, .class_ 10), (1, u "com/example/trank/trank/ByteRuns"), (0, u "KEPT"), (0, u "[Z"), (2, u "KEPT_ESCAPE"), (2, u "QUOTED_STEP"), (0, u "[B"), (24, u "indexOf"), (0, u "([BIIB)I")] 10

def k2m0 : Method := { name := "<init>", desc := "()V", sig := { parameters := [], returnType := none }, accessFlags := 2, code := none }
def k2c1 : Code := { maxStack := 2, maxLocals := 5, code := prog_2_method_2_code, exceptionTable := #[], attributes := #[] }
def k2m1 : Method := { name := "indexOf", desc := "([BIIB)I", sig := { parameters := [(.array .byte), .int, .int, .byte], returnType := some .int }, accessFlags := 8, code := some k2c1 }
/-- com/example/trank/trank/ByteRuns -/
def k2 : Class := { plain "com/example/trank/trank/ByteRuns" (some 0) with
  accessFlags := 48
  interfaces := #[]
  cf := some (fileOf pool2 8 #[] #[{ accessFlags := 2, nameIndex := 5, descriptorIndex := 6, attributes := #[] }, { accessFlags := 8, nameIndex := 44, descriptorIndex := 45, attributes := #[] }] 48 2 #[] #[{ accessFlags := 26, nameIndex := 11, descriptorIndex := 12, attributes := #[] }, { accessFlags := 26, nameIndex := 15, descriptorIndex := 12, attributes := #[] }, { accessFlags := 26, nameIndex := 18, descriptorIndex := 19, attributes := #[] }])
  fields := #[{ name := "KEPT", type := (.array .boolean), accessFlags := 26, slot := 0, constantValue := 0 }, { name := "KEPT_ESCAPE", type := (.array .boolean), accessFlags := 26, slot := 1, constantValue := 0 }, { name := "QUOTED_STEP", type := (.array .byte), accessFlags := 26, slot := 2, constantValue := 0 }]
  methods := #[k2m0, k2m1]
  instanceTypes := #[]
  staticTypes := #[(.array .boolean), (.array .boolean), (.array .byte)]
  resolved := Array.replicate 56 none
  statics := none }

def pool3 : Array CpInfo := pool [(1, u "java/lang/Cloneable"), (0, .class_ 1), (0, u "java/lang/Object"), (0, .class_ 3)] 3

/-- java/lang/Cloneable -/
def k3 : Class := { plain "java/lang/Cloneable" (some 0) with
  accessFlags := 1537
  interfaces := #[]
  cf := some (fileOf pool3 2 #[] #[] 1537 4 #[] #[])
  fields := #[]
  methods := #[]
  instanceTypes := #[]
  staticTypes := #[]
  resolved := Array.replicate 8 none
  statics := none }

def pool4 : Array CpInfo := pool [(1, u "java/io/Serializable"), (0, .class_ 1), (0, u "java/lang/Object"), (0, .class_ 3)] 3

/-- java/io/Serializable -/
def k4 : Class := { plain "java/io/Serializable" (some 0) with
  accessFlags := 1537
  interfaces := #[]
  cf := some (fileOf pool4 2 #[] #[] 1537 4 #[] #[])
  fields := #[]
  methods := #[]
  instanceTypes := #[]
  staticTypes := #[]
  resolved := Array.replicate 8 none
  statics := none }

/-- the primitive byte -/
def k5 : Class := { plain "byte" none with kind := .primitive 'B', accessFlags := 0x411 }
/-- [B -/
def k6 : Class := { plain "[B" (some 0) with kind := .array 5 .byte, interfaces := #[3, 4], accessFlags := 1041 }

def heap : Heap := #[]
def classes : Array Class := #[k0, k1, k2, k3, k4, k5, k6]
def interned : List (Array UInt16 × Addr) := []
def slotsUsed : Nat := 0
def theMethod : MethodId := ⟨1, 1⟩
def args0 : Array Value := #[.int 305419896, .int 18, .int 1, .int 1, .int 2]
def aboutOver (below : List Frame) : State where
  vm := { classes := classes, interned := interned.toArray }
  heap := heap
  slotsUsed := slotsUsed
  threads := #[{ frames := .invoking theMethod args0 :: below }]
def below0 : List Frame := [.native { method := ⟨0, 0⟩, args := #[] }]
def about1 : State := aboutOver below0
def p0 : Program := .bare "" "" ""
def e0 : Env := launch0.env 0 0 0
theorem w_frames : about1.frames = Frame.invoking theMethod args0 :: below0 := rfl
set_option maxRecDepth 65536 in
theorem w_args : argsFit about1.vm theMethod args0 = true := by decide +kernel
set_option maxRecDepth 65536 in
theorem w_heap : heapFits about1 = true := by decide +kernel
set_option maxRecDepth 65536 in
theorem w_runnable : about1.curStatus? = some .runnable := by decide +kernel
set_option maxRecDepth 65536 in
theorem w_alone : about1.alone = true := by decide +kernel
set_option maxRecDepth 65536 in
theorem w_named : about1.methodNamed? x = some theMethod := by decide +kernel
set_option maxRecDepth 65536 in
theorem w_hears : about1.hears theMethod below0 = true := by decide +kernel
set_option maxRecDepth 65536 in
theorem w_ripe : about1.ripe theMethod args0 below0 = true := by decide +kernel
theorem w_running : about1.status = .running := rfl
set_option maxRecDepth 65536 in
theorem w_room : about1.hasRoom e0.platform room_1 = true :=
  launch0.hasRoom_least _ room_1 (by decide +kernel) (by decide +kernel) (by decide +kernel) (by decide +kernel) (by decide +kernel) (by decide +kernel)
theorem allAtoms_all (ts : List Jvm.Cond) (a : Array Jvm.Value) (st : Jvm.State) : (allAtoms ts).before a st = ts.all (fun c => c.before a st) := by
  induction ts with
  | nil => rfl
  | cons c t ih =>
    show (Jvm.Cond.and c (allAtoms t)).before a st = _
    rw [Jvm.Cond.before_and, ih, List.all_cons]
def words1 : List Jvm.Cond := Jvm.Cond.code x code maxLocals ret :: tables_1
/-- a 'code' word, met by the world's own term for the bytes: nothing is compared byte by byte -/
theorem code_word {y : MethodName} {bytes : ByteArray} {mx : Nat} {rt : Option FieldType} {a : Array Value} {s : State} {m : MethodId} {meth : Method} {c : Code} (h1 : s.methodNamed? y = some m) (h2 : s.vm.method? m = some meth) (h3 : meth.code = some c) (h4 : c.code = bytes)
    (h5 : (c.maxLocals == mx && c.exceptionTable.isEmpty && decide (c.maxStack ≤ mostOperands) && decide (meth.sig.returnType = rt) && !meth.locks && decide (parseMethodDescriptor y.desc = some meth.sig)) = true) : (Jvm.Cond.code y bytes mx rt).before a s = true := by
  simp only [Bool.and_eq_true, beq_iff_eq, Bool.not_eq_true', decide_eq_true_eq] at h5
  obtain ⟨⟨⟨⟨⟨g1, g2⟩, g3⟩, g4⟩, g5⟩, g6⟩ := h5
  simp [Cond.before, Cond.holds, Cond.value, h1, h2, h3, h4, g1, g2, g3, g4, g5, g6]
def isCode : Jvm.Cond → Bool
  | .code _ _ _ _ => true
  | _ => false
theorem all_split {L : List Jvm.Cond} {P : Jvm.Cond → Bool} (h1 : L.all (fun c => isCode c || P c) = true) (h2 : ∀ c ∈ L.filter isCode, P c = true) : L.all P = true := by
  refine List.all_eq_true.mpr fun c hc => ?_
  have h := List.all_eq_true.mp h1 c hc
  rcases Bool.eq_false_or_eq_true (isCode c) with hi | hi
  · exact h2 c (List.mem_filter.mpr ⟨hc, hi⟩)
  · simpa [hi] using h
set_option maxRecDepth 65536 in
theorem w_c0 : (Jvm.Cond.code x code maxLocals ret).before args0 about1 = true := code_word (m := ⟨1, 1⟩) (meth := k1m1) (c := k1c1) (by decide +kernel) rfl rfl rfl (by decide +kernel)
set_option maxRecDepth 65536 in
theorem w_c1 : (Jvm.Cond.code ({ cls := "com/example/trank/trank/ByteRuns", name := "indexOf", desc := "([BIIB)I" } : Jvm.MethodName) prog_2_method_2_code (5 : Nat) (Option.some Jvm.ClassFile.FieldType.int)).before args0 about1 = true := code_word (m := ⟨2, 1⟩) (meth := k2m1) (c := k2c1) (by decide +kernel) rfl rfl rfl (by decide +kernel)
set_option maxRecDepth 65536 in
theorem w_c2 : (Jvm.Cond.code ({ cls := "com/example/trank/trank/ByteRunsIndexOfPinLaw", name := "expected", desc := "([BIIB)I" } : Jvm.MethodName) method_3_code (4 : Nat) (Option.some Jvm.ClassFile.FieldType.int)).before args0 about1 = true := code_word (m := ⟨1, 2⟩) (meth := k1m2) (c := k1c2) (by decide +kernel) rfl rfl rfl (by decide +kernel)
def codes1 : List Jvm.Cond := [Jvm.Cond.code x code maxLocals ret, Jvm.Cond.code ({ cls := "com/example/trank/trank/ByteRuns", name := "indexOf", desc := "([BIIB)I" } : Jvm.MethodName) prog_2_method_2_code (5 : Nat) (Option.some Jvm.ClassFile.FieldType.int), Jvm.Cond.code ({ cls := "com/example/trank/trank/ByteRunsIndexOfPinLaw", name := "expected", desc := "([BIIB)I" } : Jvm.MethodName) method_3_code (4 : Nat) (Option.some Jvm.ClassFile.FieldType.int)]
set_option maxRecDepth 65536 in
theorem codes_eq : words1.filter isCode = codes1 := rfl
theorem w_codes : ∀ c ∈ words1.filter isCode, c.before args0 about1 = true := by
  rw [codes_eq]
  intro c hc
  simp only [codes1, List.mem_cons, List.not_mem_nil, or_false] at hc
  rcases hc with rfl | rfl | rfl
  · exact w_c0
  · exact w_c1
  · exact w_c2
set_option maxRecDepth 65536 in
theorem w_t1 : words1.all (fun c => isCode c || c.before args0 about1) = true := by decide +kernel
theorem w_tables : (allAtoms (Jvm.Cond.code x code maxLocals ret :: tables_1)).before args0 about1 = true := by
  rw [allAtoms_all]
  show words1.all (fun c => c.before args0 about1) = true
  refine all_split ?_ w_codes
  rw [w_t1]
set_option maxRecDepth 65536 in
theorem w_case : (Jvm.Cond.and given_1 narrow_1).before args0 about1 = true := by decide +kernel
theorem w_applies : (headSpec (Jvm.Cond.code x code maxLocals ret :: tables_1) room_1).applies x e0.platform about1 = true :=
  (Spec.applies_iff w_frames).mpr ⟨w_running, w_runnable, w_alone, w_named, w_hears, w_ripe, w_room, w_tables⟩
theorem atStart : AtStart classFile x code maxLocals ret World_1 tables_1 room_1 Calls_1 rest_1 Pre_1 launch0 p0 e0 about1 theMethod args0 below0 :=
  ⟨lists_1, trivial, launch0.admits_env _ _ _, launch0.least_env, fairChoices_fair.cas, fairChoices_fair.clock, w_frames, w_args, w_heap, w_applies, trivial, trivial, w_case⟩
end start1
theorem witness_1 : WitnessClaimed_1 := ⟨start1.p0, start1.e0, start1.about1, start1.theMethod, start1.args0, start1.below0, start1.atStart⟩
end Jvm.Pilot.@@N@@
