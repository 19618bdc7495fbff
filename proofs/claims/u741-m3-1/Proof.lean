import JvmDerived
import JvmDerived.Pilot.@@N@@Statement
import JvmDerived.Pilot.@@N@@Code
set_option linter.unusedVariables false
set_option linter.unusedSimpArgs false
namespace Jvm.RoadKit
open Sem ClassFile Op Lib Jvm.Stand Jvm.Free Jvm.LawKit
section New
variable {p : Program} {l : Launch} {e : Env} {R : Room} {s : State} {m : MethodId} {args : Array Value} {below : List Frame} {meth : Method} {c : Code} {T : State} {locs : List Loc} {cells slots : Nat}
theorem retI (X : Stand p l e R s m args below meth c T locs cells slots) (hx : p.tables.exec = Jvm.exec) {pc : Nat} {Ls : Array Slot} {z : Int32} {rest : List Value} (hret : meth.sig.returnType = some .int) (hd : decode c.code pc = .ok (.ireturn, 1)) {fs : List Frame}
    (hl : ∀ (f : JFrame) (acts : List Action), f.method = m → f.locked = none → f.entered = [] → (doReturn e (T.setTop f) acts (some (.int z))).1 = T.setFrames fs) : Steps p.tables e below (T.setTop (mkF m pc Ls (.int z :: rest))) (T.setFrames fs) := by
  have hm' : T.vm.method? m = some meth := X.method'
  have hn : narrow .int (.int z) = .int z := rfl
  show Steps p.tables e below (T.setTop { method := m, pc := pc, locals := Ls, stack := _ :: rest, locked := none }) _
  jvm_step X.here [X.here.top, hx, hd, hm', hret, hn]
  first | (intro acts; rw [hl _ acts rfl rfl rfl]) | rw [hl _ _ rfl rfl rfl]
  exact Steps.refl _
end New
end Jvm.RoadKit
namespace Jvm.Pilot.@@N@@
open Jvm Jvm.ClassFile Sem Op Lib Jvm.Free Jvm.Stand Jvm.LawKit Jvm.RoadKit Bundle Jvm.Pilot.@@N@@.Jvm.D
def AF (Z : State) (h : Heap) (a : Addr) (ty : FieldType) (n : Nat) (f : Nat → Value) : Prop := ∃ c : Cell, Arr Z h a c ty ∧ c.slots.size = n ∧ ∀ j, j < n → c.slots[j]? = some (f j)
theorem AF.lt {Z : State} {h : Heap} {a : Addr} {ty : FieldType} {n : Nat} {f : Nat → Value} (F : AF Z h a ty n f) : a < h.size := by obtain ⟨c, A, -⟩ := F; exact A.lt
theorem AF.ext {Z : State} {h h' : Heap} {a : Addr} {ty : FieldType} {n : Nat} {f : Nat → Value} (F : AF Z h a ty n f) (E : Ext h h') : AF Z h' a ty n f := by obtain ⟨c, A, r⟩ := F; exact ⟨c, A.ext E, r⟩
theorem AF.other {Z : State} {h h' : Heap} {a b : Addr} {ty : FieldType} {n : Nat} {f : Nat → Value} {sl : Nat} {v : Value} (F : AF Z h b ty n f) (W : Wr h h' a sl v) (q : b ≠ a) : AF Z h' b ty n f := by obtain ⟨c, A, r⟩ := F; exact ⟨c, A.other W q, r⟩
theorem AF.keep {Z : State} {h h' : Heap} {a : Addr} {ty : FieldType} {n : Nat} {f : Nat → Value} {ws : List Addr} (F : AF Z h a ty n f) (K : Keep h h' ws) (q : a ∉ ws) : AF Z h' a ty n f := by obtain ⟨c, A, r⟩ := F; exact ⟨c, ⟨K.2.1 a c A.1 q, A.2⟩, r⟩
theorem AF.congr {Z : State} {h : Heap} {a : Addr} {ty : FieldType} {n : Nat} {f g : Nat → Value} (F : AF Z h a ty n f) (q : ∀ j, j < n → f j = g j) : AF Z h a ty n g := by obtain ⟨c, A, s, r⟩ := F; exact ⟨c, A, s, fun j hj => by rw [r j hj, q j hj]⟩
theorem AF.new {Z : State} {h : Heap} {a : Addr} {ty : FieldType} {n : Nat} {k : ClassId} {z : Int32} (A : Arr Z h a (newA k ty z) ty) (q : z.toNatClampNeg = n) : AF Z h a ty n (fun _ => defaultValue ty) := ⟨_, A, by rw [sz_new, q], fun j hj => by simp [newA, q, hj]⟩
theorem AF.set {Z : State} {h h' : Heap} {a : Addr} {ty : FieldType} {n : Nat} {f : Nat → Value} {i : Nat} {v : Value} (F : AF Z h a ty n f) (W : Wr h h' a i v) : AF Z h' a ty n (fun j => if j = i then v else f j) := by
  obtain ⟨c, A, s, r⟩ := F
  refine ⟨_, A.same W, by rw [sz_set]; exact s, fun j hj => ?_⟩
  by_cases q : j = i
  · subst q
    simp [Cell.setSlot, s, hj]
  · have q' : i ≠ j := fun z => q z.symm
    simp only [q, if_false]
    rw [← r j hj]
    simp [Cell.setSlot, Array.getElem?_setIfInBounds, q']
theorem own_keep {h h' : Heap} (q : h' = h) : Keep h h' [] := by subst q; exact Keep.refl _ _
def own_hit (A B : Nat → Int64) : Nat → Nat → Bool
  | _, 0 => false
  | i, k + 1 => (A i &&& B i != 0) || own_hit A B (i + 1) k
def own_A (a0 a1 : Int64) (j : Nat) : Int64 := if j = 0 then a0 else a1
def own_B (b0 b1 b2 : Int64) (j : Nat) : Int64 := if j = 0 then b0 else if j = 1 then b1 else b2
theorem own_lt {i n : Nat} (h : i < n) (hn : n < 2 ^ 31) : Int32.ofNat i < Int32.ofNat n := by
  rw [Int32.lt_iff_toInt_lt, toInt_of rfl (by omega), toInt_of rfl hn]; omega
theorem own_ge {i n : Nat} (h : n ≤ i) (hn : i < 2 ^ 31) : ¬ Int32.ofNat i < Int32.ofNat n := by
  rw [Int32.lt_iff_toInt_lt, toInt_of rfl (by omega), toInt_of rfl (by omega)]; omega
theorem own_nn {n : Nat} (hn : n < 2 ^ 31) : ¬ Int32.ofNat n < 0 := by
  rw [Int32.lt_iff_toInt_lt, toInt_of rfl hn, show (0 : Int32).toInt = 0 from rfl]; omega
theorem own_n (p : Int32) : ∃ n : Nat, n ≤ 2 ∧ (p &&& (3 : Int32)) % (3 : Int32) = Int32.ofNat n := by
  have h1 := c_mask p 3 2 (by decide) (by decide)
  have h2 := (c_irem (p &&& 3) 3 3 rfl).1 (by rw [h1]; omega)
  rw [h1] at h2
  have h3 : ((p &&& (3 : Int32)) % (3 : Int32)).toInt = 0 ∨ ((p &&& (3 : Int32)) % (3 : Int32)).toInt = 1 ∨ ((p &&& (3 : Int32)) % (3 : Int32)).toInt = 2 := by omega
  rcases h3 with h | h | h
  · exact ⟨0, by omega, Int32.toInt_inj.mp h⟩
  · exact ⟨1, by omega, Int32.toInt_inj.mp h⟩
  · exact ⟨2, by omega, Int32.toInt_inj.mp h⟩
theorem own_m (n : Nat) (x : Int32) : ∃ k : Nat, (k = n ∨ k = n + 1) ∧ Int32.ofNat n + (x &&& (1 : Int32)) = Int32.ofNat k := by
  rcases and_one x with h | h
  · exact ⟨n, Or.inl rfl, by rw [h]; simp⟩
  · exact ⟨n + 1, Or.inr rfl, by rw [h, inc_ofNat]⟩
theorem own_lne {x : Int64} (h : x ≠ 0) : ¬ lcmpW x 0 = (0 : Int32) := fun q => h ((lw_eq x 0).mp q)
theorem own_leq {x : Int64} (h : x = 0) : lcmpW x 0 = (0 : Int32) := (lw_eq x 0).mpr h
theorem d1_2 : decode prog_15_method_8_code 2 = .ok (.iload_n 2, 1) := by decide +kernel
theorem d1_3 : decode prog_15_method_8_code 3 = .ok (.aload_n 0, 1) := by decide +kernel
theorem d1_4 : decode prog_15_method_8_code 4 = .ok (.arraylength, 1) := by decide +kernel
theorem d1_5 : decode prog_15_method_8_code 5 = .ok (.if_icmp .ge 23, 3) := by decide +kernel
theorem d1_8 : decode prog_15_method_8_code 8 = .ok (.aload_n 0, 1) := by decide +kernel
theorem d1_9 : decode prog_15_method_8_code 9 = .ok (.iload_n 2, 1) := by decide +kernel
theorem d1_10 : decode prog_15_method_8_code 10 = .ok (.laload, 1) := by decide +kernel
theorem d1_11 : decode prog_15_method_8_code 11 = .ok (.aload_n 1, 1) := by decide +kernel
theorem d1_12 : decode prog_15_method_8_code 12 = .ok (.iload_n 2, 1) := by decide +kernel
theorem d1_13 : decode prog_15_method_8_code 13 = .ok (.laload, 1) := by decide +kernel
theorem d1_14 : decode prog_15_method_8_code 14 = .ok (.land, 1) := by decide +kernel
theorem d1_15 : decode prog_15_method_8_code 15 = .ok (.lconst 0, 1) := by decide +kernel
theorem d1_16 : decode prog_15_method_8_code 16 = .ok (.lcmp, 1) := by decide +kernel
theorem d1_17 : decode prog_15_method_8_code 17 = .ok (.ifCond .eq 5, 3) := by decide +kernel
theorem d1_22 : decode prog_15_method_8_code 22 = .ok (.iinc 2 1, 3) := by decide +kernel
theorem d1_25 : decode prog_15_method_8_code 25 = .ok (.goto (-23), 3) := by decide +kernel
set_option maxRecDepth 65536 in
set_option maxHeartbeats 40000000 in
theorem tn1_turn {p : Program} {l : Launch} {e : Env} {R : Room} {s : State} {m : MethodId} {args : Array Value} {below : List Frame} {meth : Method} {c : Code} {T0 : State} {locs : List Loc} {cells slots : Nat} {Z : State} {a0 : Array Value} {h0 : Heap} (o0 o1 : Addr) (i2 z0 : Int32) (w3 w4 : Int64) (cl0 cl1 : Cell)
    (X0 : Stand p l e R s m args below meth c T0 locs cells slots) (hx : p.tables.exec = Jvm.exec) (hZ : Z.Warmed39 s.vm) (hw : ∀ d ∈ tables_1, d.before a0 Z = true) (hby : c.code = prog_15_method_8_code) (hown : s.vm.findClass "com/example/sidetrip/sidetrip/dispatch/Bits" = some m.cls) (e0 : T0.heap = h0) (Ar0 : Arr Z h0 o0 cl0 .long) (S0 : cl0.slots.size = z0.toNatClampNeg) (N0 : ¬ z0 < 0) (Ar1 : Arr Z h0 o1 cl1 .long) (hin0 : ¬ (i2 < 0 ∨ cl0.slots.size ≤ i2.toNatClampNeg)) (hat0 : cl0.slots[i2.toNatClampNeg]? = some (.long w3)) (hin1 : ¬ (i2 < 0 ∨ cl1.slots.size ≤ i2.toNatClampNeg)) (hat1 : cl1.slots[i2.toNatClampNeg]? = some (.long w4)) (hc5 : i2 < z0) (hc17 : lcmpW (w3 &&& w4) (0 : Int64) = (0 : Int32)) {target : State} (kt : Steps p.tables e below (T0.setTop (mkF m 2 #[.val (.ref o0), .val (.ref o1), .val (.int (i2 + (1 : Int32)))] [])) target) :
    Steps p.tables e below (T0.setTop (mkF m 2 #[.val (.ref o0), .val (.ref o1), .val (.int i2)] [])) target := by
  show Steps p.tables e below (T0.setTop (mkF m 2 #[.val (.ref o0), .val (.ref o1), .val (.int i2)] [])) _
  refine XS.iloadN X0.here hx rfl (hb hby d1_2) rfl ?_
  show Steps p.tables e below (T0.setTop (mkF m 3 #[.val (.ref o0), .val (.ref o1), .val (.int i2)] [(.int i2)])) _
  refine XS.aloadN X0.here hx rfl (hb hby d1_3) rfl rfl ?_
  show Steps p.tables e below (T0.setTop (mkF m 4 #[.val (.ref o0), .val (.ref o1), .val (.int i2)] [(.ref o0), (.int i2)])) _
  refine X0.arraylength hx (by rw [e0]; exact Ar0.1) (State.isArrayOf_alike hZ.alike Ar0.2.1) (g := (mkF m 4 #[.val (.ref o0), .val (.ref o1), .val (.int i2)] [(.ref o0), (.int i2)])) rfl rfl (hb hby d1_4) _ ?_
  rw [len_of S0 N0]
  show Steps p.tables e below (T0.setTop (mkF m 5 #[.val (.ref o0), .val (.ref o1), .val (.int i2)] [(.int z0), (.int i2)])) _
  refine XS.icmpNo X0.here hx rfl (hb hby d1_5) rfl (tlt hc5).2.1 ?_
  show Steps p.tables e below (T0.setTop (mkF m 8 #[.val (.ref o0), .val (.ref o1), .val (.int i2)] [])) _
  refine XS.aloadN X0.here hx rfl (hb hby d1_8) rfl rfl ?_
  show Steps p.tables e below (T0.setTop (mkF m 9 #[.val (.ref o0), .val (.ref o1), .val (.int i2)] [(.ref o0)])) _
  refine XS.iloadN X0.here hx rfl (hb hby d1_9) rfl ?_
  show Steps p.tables e below (T0.setTop (mkF m 10 #[.val (.ref o0), .val (.ref o1), .val (.int i2)] [(.int i2), (.ref o0)])) _
  refine X0.laload hx (j := i2) (v := (.long w3)) (by rw [e0]; exact Ar0.1) (State.isArrayOf_alike hZ.alike Ar0.2.1) Ar0.2.2 hin0 hat0 (g := (mkF m 10 #[.val (.ref o0), .val (.ref o1), .val (.int i2)] [(.int i2), (.ref o0)])) rfl rfl (hb hby d1_10) _ ?_
  show Steps p.tables e below (T0.setTop (mkF m 11 #[.val (.ref o0), .val (.ref o1), .val (.int i2)] [(.long w3)])) _
  refine XS.aloadN X0.here hx rfl (hb hby d1_11) rfl rfl ?_
  show Steps p.tables e below (T0.setTop (mkF m 12 #[.val (.ref o0), .val (.ref o1), .val (.int i2)] [(.ref o1), (.long w3)])) _
  refine XS.iloadN X0.here hx rfl (hb hby d1_12) rfl ?_
  show Steps p.tables e below (T0.setTop (mkF m 13 #[.val (.ref o0), .val (.ref o1), .val (.int i2)] [(.int i2), (.ref o1), (.long w3)])) _
  refine X0.laload hx (j := i2) (v := (.long w4)) (by rw [e0]; exact Ar1.1) (State.isArrayOf_alike hZ.alike Ar1.2.1) Ar1.2.2 hin1 hat1 (g := (mkF m 13 #[.val (.ref o0), .val (.ref o1), .val (.int i2)] [(.int i2), (.ref o1), (.long w3)])) rfl rfl (hb hby d1_13) _ ?_
  show Steps p.tables e below (T0.setTop (mkF m 14 #[.val (.ref o0), .val (.ref o1), .val (.int i2)] [(.long w4), (.long w3)])) _
  refine XS.land X0.here hx rfl (hb hby d1_14) rfl ?_
  show Steps p.tables e below (T0.setTop (mkF m 15 #[.val (.ref o0), .val (.ref o1), .val (.int i2)] [(.long (w3 &&& w4))])) _
  refine XS.lconst X0.here hx rfl (hb hby d1_15) ?_
  show Steps p.tables e below (T0.setTop (mkF m 16 #[.val (.ref o0), .val (.ref o1), .val (.int i2)] [(.long (0 : Int64)), (.long (w3 &&& w4))])) _
  refine XS.lcmp X0.here hx rfl (hb hby d1_16) rfl ?_
  show Steps p.tables e below (T0.setTop (mkF m 17 #[.val (.ref o0), .val (.ref o1), .val (.int i2)] [(.int (lcmpW (w3 &&& w4) (0 : Int64)))])) _
  refine XS.ifYes X0.here hx rfl (pc0 := 17) (pc' := 22) rfl (hb hby d1_17) rfl ((if0 _ _).trans (teq hc17).1) (by decide) (by decide) ?_
  show Steps p.tables e below (T0.setTop (mkF m 22 #[.val (.ref o0), .val (.ref o1), .val (.int i2)] [])) _
  refine XS.iinc X0.here hx rfl (hb hby d1_22) rfl (l' := #[.val (.ref o0), .val (.ref o1), .val (.int (i2 + (1 : Int32)))]) rfl ?_
  show Steps p.tables e below (T0.setTop (mkF m 25 #[.val (.ref o0), .val (.ref o1), .val (.int (i2 + (1 : Int32)))] [])) _
  refine XS.goto X0.here hx rfl (pc0 := 25) (pc' := 2) rfl (hb hby d1_25) (by decide) (by decide) ?_
  exact kt
set_option maxRecDepth 65536 in
set_option maxHeartbeats 40000000 in
theorem tn1_hit {p : Program} {l : Launch} {e : Env} {R : Room} {s : State} {m : MethodId} {args : Array Value} {below : List Frame} {meth : Method} {c : Code} {T0 : State} {locs : List Loc} {cells slots : Nat} {Z : State} {a0 : Array Value} {h0 : Heap} (o0 o1 : Addr) (i2 z0 : Int32) (w3 w4 : Int64) (cl0 cl1 : Cell)
    (X0 : Stand p l e R s m args below meth c T0 locs cells slots) (hx : p.tables.exec = Jvm.exec) (hZ : Z.Warmed39 s.vm) (hw : ∀ d ∈ tables_1, d.before a0 Z = true) (hby : c.code = prog_15_method_8_code) (hown : s.vm.findClass "com/example/sidetrip/sidetrip/dispatch/Bits" = some m.cls) (e0 : T0.heap = h0) (Ar0 : Arr Z h0 o0 cl0 .long) (S0 : cl0.slots.size = z0.toNatClampNeg) (N0 : ¬ z0 < 0) (Ar1 : Arr Z h0 o1 cl1 .long) (hin0 : ¬ (i2 < 0 ∨ cl0.slots.size ≤ i2.toNatClampNeg)) (hat0 : cl0.slots[i2.toNatClampNeg]? = some (.long w3)) (hin1 : ¬ (i2 < 0 ∨ cl1.slots.size ≤ i2.toNatClampNeg)) (hat1 : cl1.slots[i2.toNatClampNeg]? = some (.long w4)) (hc5 : i2 < z0) (hc17 : ¬ lcmpW (w3 &&& w4) (0 : Int64) = (0 : Int32)) {target : State} (kt : Steps p.tables e below (T0.setTop (mkF m 20 #[.val (.ref o0), .val (.ref o1), .val (.int i2)] [])) target) :
    Steps p.tables e below (T0.setTop (mkF m 2 #[.val (.ref o0), .val (.ref o1), .val (.int i2)] [])) target := by
  show Steps p.tables e below (T0.setTop (mkF m 2 #[.val (.ref o0), .val (.ref o1), .val (.int i2)] [])) _
  refine XS.iloadN X0.here hx rfl (hb hby d1_2) rfl ?_
  show Steps p.tables e below (T0.setTop (mkF m 3 #[.val (.ref o0), .val (.ref o1), .val (.int i2)] [(.int i2)])) _
  refine XS.aloadN X0.here hx rfl (hb hby d1_3) rfl rfl ?_
  show Steps p.tables e below (T0.setTop (mkF m 4 #[.val (.ref o0), .val (.ref o1), .val (.int i2)] [(.ref o0), (.int i2)])) _
  refine X0.arraylength hx (by rw [e0]; exact Ar0.1) (State.isArrayOf_alike hZ.alike Ar0.2.1) (g := (mkF m 4 #[.val (.ref o0), .val (.ref o1), .val (.int i2)] [(.ref o0), (.int i2)])) rfl rfl (hb hby d1_4) _ ?_
  rw [len_of S0 N0]
  show Steps p.tables e below (T0.setTop (mkF m 5 #[.val (.ref o0), .val (.ref o1), .val (.int i2)] [(.int z0), (.int i2)])) _
  refine XS.icmpNo X0.here hx rfl (hb hby d1_5) rfl (tlt hc5).2.1 ?_
  show Steps p.tables e below (T0.setTop (mkF m 8 #[.val (.ref o0), .val (.ref o1), .val (.int i2)] [])) _
  refine XS.aloadN X0.here hx rfl (hb hby d1_8) rfl rfl ?_
  show Steps p.tables e below (T0.setTop (mkF m 9 #[.val (.ref o0), .val (.ref o1), .val (.int i2)] [(.ref o0)])) _
  refine XS.iloadN X0.here hx rfl (hb hby d1_9) rfl ?_
  show Steps p.tables e below (T0.setTop (mkF m 10 #[.val (.ref o0), .val (.ref o1), .val (.int i2)] [(.int i2), (.ref o0)])) _
  refine X0.laload hx (j := i2) (v := (.long w3)) (by rw [e0]; exact Ar0.1) (State.isArrayOf_alike hZ.alike Ar0.2.1) Ar0.2.2 hin0 hat0 (g := (mkF m 10 #[.val (.ref o0), .val (.ref o1), .val (.int i2)] [(.int i2), (.ref o0)])) rfl rfl (hb hby d1_10) _ ?_
  show Steps p.tables e below (T0.setTop (mkF m 11 #[.val (.ref o0), .val (.ref o1), .val (.int i2)] [(.long w3)])) _
  refine XS.aloadN X0.here hx rfl (hb hby d1_11) rfl rfl ?_
  show Steps p.tables e below (T0.setTop (mkF m 12 #[.val (.ref o0), .val (.ref o1), .val (.int i2)] [(.ref o1), (.long w3)])) _
  refine XS.iloadN X0.here hx rfl (hb hby d1_12) rfl ?_
  show Steps p.tables e below (T0.setTop (mkF m 13 #[.val (.ref o0), .val (.ref o1), .val (.int i2)] [(.int i2), (.ref o1), (.long w3)])) _
  refine X0.laload hx (j := i2) (v := (.long w4)) (by rw [e0]; exact Ar1.1) (State.isArrayOf_alike hZ.alike Ar1.2.1) Ar1.2.2 hin1 hat1 (g := (mkF m 13 #[.val (.ref o0), .val (.ref o1), .val (.int i2)] [(.int i2), (.ref o1), (.long w3)])) rfl rfl (hb hby d1_13) _ ?_
  show Steps p.tables e below (T0.setTop (mkF m 14 #[.val (.ref o0), .val (.ref o1), .val (.int i2)] [(.long w4), (.long w3)])) _
  refine XS.land X0.here hx rfl (hb hby d1_14) rfl ?_
  show Steps p.tables e below (T0.setTop (mkF m 15 #[.val (.ref o0), .val (.ref o1), .val (.int i2)] [(.long (w3 &&& w4))])) _
  refine XS.lconst X0.here hx rfl (hb hby d1_15) ?_
  show Steps p.tables e below (T0.setTop (mkF m 16 #[.val (.ref o0), .val (.ref o1), .val (.int i2)] [(.long (0 : Int64)), (.long (w3 &&& w4))])) _
  refine XS.lcmp X0.here hx rfl (hb hby d1_16) rfl ?_
  show Steps p.tables e below (T0.setTop (mkF m 17 #[.val (.ref o0), .val (.ref o1), .val (.int i2)] [(.int (lcmpW (w3 &&& w4) (0 : Int64)))])) _
  refine XS.ifNo X0.here hx rfl (hb hby d1_17) rfl ((if0 _ _).trans (feq hc17).1) ?_
  exact kt
set_option maxRecDepth 65536 in
set_option maxHeartbeats 40000000 in
theorem tn1_out {p : Program} {l : Launch} {e : Env} {R : Room} {s : State} {m : MethodId} {args : Array Value} {below : List Frame} {meth : Method} {c : Code} {T0 : State} {locs : List Loc} {cells slots : Nat} {Z : State} {a0 : Array Value} {h0 : Heap} (o0 o1 : Addr) (i2 z0 : Int32) (cl0 : Cell)
    (X0 : Stand p l e R s m args below meth c T0 locs cells slots) (hx : p.tables.exec = Jvm.exec) (hZ : Z.Warmed39 s.vm) (hw : ∀ d ∈ tables_1, d.before a0 Z = true) (hby : c.code = prog_15_method_8_code) (hown : s.vm.findClass "com/example/sidetrip/sidetrip/dispatch/Bits" = some m.cls) (e0 : T0.heap = h0) (Ar0 : Arr Z h0 o0 cl0 .long) (S0 : cl0.slots.size = z0.toNatClampNeg) (N0 : ¬ z0 < 0) (hc5 : ¬ i2 < z0) {target : State} (kt : Steps p.tables e below (T0.setTop (mkF m 28 #[.val (.ref o0), .val (.ref o1), .val (.int i2)] [])) target) :
    Steps p.tables e below (T0.setTop (mkF m 2 #[.val (.ref o0), .val (.ref o1), .val (.int i2)] [])) target := by
  show Steps p.tables e below (T0.setTop (mkF m 2 #[.val (.ref o0), .val (.ref o1), .val (.int i2)] [])) _
  refine XS.iloadN X0.here hx rfl (hb hby d1_2) rfl ?_
  show Steps p.tables e below (T0.setTop (mkF m 3 #[.val (.ref o0), .val (.ref o1), .val (.int i2)] [(.int i2)])) _
  refine XS.aloadN X0.here hx rfl (hb hby d1_3) rfl rfl ?_
  show Steps p.tables e below (T0.setTop (mkF m 4 #[.val (.ref o0), .val (.ref o1), .val (.int i2)] [(.ref o0), (.int i2)])) _
  refine X0.arraylength hx (by rw [e0]; exact Ar0.1) (State.isArrayOf_alike hZ.alike Ar0.2.1) (g := (mkF m 4 #[.val (.ref o0), .val (.ref o1), .val (.int i2)] [(.ref o0), (.int i2)])) rfl rfl (hb hby d1_4) _ ?_
  rw [len_of S0 N0]
  show Steps p.tables e below (T0.setTop (mkF m 5 #[.val (.ref o0), .val (.ref o1), .val (.int i2)] [(.int z0), (.int i2)])) _
  refine XS.icmpYes X0.here hx rfl (pc0 := 5) (pc' := 28) rfl (hb hby d1_5) rfl (flt hc5).2.1 (by decide) (by decide) ?_
  exact kt
set_option maxRecDepth 65536 in
set_option maxHeartbeats 40000000 in
theorem own_loop1 {p : Program} {l : Launch} {e : Env} {R : Room} {s : State} {m : MethodId} {args : Array Value} {below : List Frame} {meth : Method} {c : Code} {T0 : State} {locs : List Loc} {cells slots : Nat} {Z : State} {a0 : Array Value} {h0 : Heap} (o0 o1 : Addr) (cl0 cl1 : Cell) (n mm : Nat) (A B : Nat → Int64)
    (X0 : Stand p l e R s m args below meth c T0 locs cells slots) (hx : p.tables.exec = Jvm.exec) (hZ : Z.Warmed39 s.vm) (hw : ∀ d ∈ tables_1, d.before a0 Z = true) (hby : c.code = prog_15_method_8_code) (hown : s.vm.findClass "com/example/sidetrip/sidetrip/dispatch/Bits" = some m.cls) (e0 : T0.heap = h0) (Ar0 : Arr Z h0 o0 cl0 .long) (Ar1 : Arr Z h0 o1 cl1 .long) (S0 : cl0.slots.size = n) (S1 : cl1.slots.size = mm) (hn : mm < 2 ^ 31) (hnm : n ≤ mm) (at0 : ∀ j, j < n → cl0.slots[j]? = some (.long (A j))) (at1 : ∀ j, j < mm → cl1.slots[j]? = some (.long (B j))) (k i : Nat) (hik : i + k = n) :
    ∃ j : Int32, ∀ target, Steps p.tables e below (T0.setTop (mkF m (if own_hit A B i k = true then 20 else 28) #[.val (.ref o0), .val (.ref o1), .val (.int j)] [])) target → Steps p.tables e below (T0.setTop (mkF m 2 #[.val (.ref o0), .val (.ref o1), .val (.int (Int32.ofNat i))] [])) target := by
  have hz : (Int32.ofNat n).toNatClampNeg = n := clamp_of rfl (by omega)
  have S0' : cl0.slots.size = (Int32.ofNat n).toNatClampNeg := by rw [hz]; exact S0
  have N0' : ¬ Int32.ofNat n < 0 := own_nn (by omega)
  induction k generalizing i with
  | zero => exact ⟨Int32.ofNat i, fun target kt => tn1_out o0 o1 (Int32.ofNat i) (Int32.ofNat n) cl0 X0 hx hZ hw hby hown e0 Ar0 S0' N0' (own_ge (by omega) (by omega)) (by simpa [own_hit] using kt)⟩
  | succ k ih =>
    have hi : (Int32.ofNat i).toNatClampNeg = i := clamp_of rfl (by omega)
    have hin0 : ¬ (Int32.ofNat i < 0 ∨ cl0.slots.size ≤ (Int32.ofNat i).toNatClampNeg) := by rw [S0]; exact within rfl (by omega) (by omega)
    have hin1 : ¬ (Int32.ofNat i < 0 ∨ cl1.slots.size ≤ (Int32.ofNat i).toNatClampNeg) := by rw [S1]; exact within rfl (by omega) (by omega)
    have hat0 : cl0.slots[(Int32.ofNat i).toNatClampNeg]? = some (.long (A i)) := by rw [hi]; exact at0 i (by omega)
    have hat1 : cl1.slots[(Int32.ofNat i).toNatClampNeg]? = some (.long (B i)) := by rw [hi]; exact at1 i (by omega)
    have hc5 : Int32.ofNat i < Int32.ofNat n := own_lt (by omega) (by omega)
    by_cases hq : A i &&& B i = 0
    · obtain ⟨j, hj⟩ := ih (i + 1) (by omega)
      refine ⟨j, fun target kt => ?_⟩
      have eh : own_hit A B i (k + 1) = own_hit A B (i + 1) k := by simp [own_hit, hq]
      rw [eh] at kt
      refine tn1_turn o0 o1 (Int32.ofNat i) (Int32.ofNat n) (A i) (B i) cl0 cl1 X0 hx hZ hw hby hown e0 Ar0 S0' N0' Ar1 hin0 hat0 hin1 hat1 hc5 (own_leq hq) ?_
      rw [← inc_ofNat]
      exact hj target kt
    · refine ⟨Int32.ofNat i, fun target kt => ?_⟩
      have eh : own_hit A B i (k + 1) = true := by simp [own_hit, hq]
      rw [eh] at kt
      exact tn1_hit o0 o1 (Int32.ofNat i) (Int32.ofNat n) (A i) (B i) cl0 cl1 X0 hx hZ hw hby hown e0 Ar0 S0' N0' Ar1 hin0 hat0 hin1 hat1 hc5 (own_lne hq) kt
theorem d1_0 : decode prog_15_method_8_code 0 = .ok (.iconst 0, 1) := by decide +kernel
theorem d1_1 : decode prog_15_method_8_code 1 = .ok (.istore_n 2, 1) := by decide +kernel
theorem d1_20 : decode prog_15_method_8_code 20 = .ok (.iconst 1, 1) := by decide +kernel
theorem d1_21 : decode prog_15_method_8_code 21 = .ok (.ireturn, 1) := by decide +kernel
theorem d1_28 : decode prog_15_method_8_code 28 = .ok (.iconst 0, 1) := by decide +kernel
theorem d1_29 : decode prog_15_method_8_code 29 = .ok (.ireturn, 1) := by decide +kernel
theorem pn_1 : plainName "com/example/sidetrip/sidetrip/dispatch/Bits" = true := by first | (simp [plainName, overriddenIn]; done) | decide +kernel
theorem ef_1 (m : MethodId) (x0 : Addr) (x1 : Addr) : entryFrame m #[(.ref x0), (.ref x1)] 3 = mkF m 0 #[.val (.ref x0), .val (.ref x1), .unset] [] := by first | (simp [entryFrame, mkF, argsToLocals, Value.category]; done) | rfl
def own_r (b : Bool) : Int32 := if b = true then 1 else 0
def Q1 (A B : Nat → Int64) (n : Nat) (h0 : Heap) (n0 : Nat) (v : Option Value) (h : Heap) (L : List Loc) : Prop := v = some (.int (own_r (own_hit A B 0 n))) ∧ Fr n0 L ∧ h = h0
set_option maxRecDepth 65536 in
set_option maxHeartbeats 40000000 in
theorem rm1 (l : Launch) (Z : State) (a0 : Array Value) (hw : ∀ d ∈ tables_1, d.before a0 Z = true) (ws : List Jvm.Cond) (a1 a2 : Addr) (A B : Nat → Int64) (n mm : Nat) (h0 : Heap) (n0 : Nat) (Z0 : n0 ≤ h0.size) (V1 : AF Z h0 a1 .long n (fun j => .long (A j))) (V2 : AF Z h0 a2 .long mm (fun j => .long (B j))) (hnm : n ≤ mm) (hm : mm < 2 ^ 31) :
    MetFree l (⟨"com/example/sidetrip/sidetrip/dispatch/Bits", "intersects", "([J[J)Z"⟩ : MethodName) (head1 (Jvm.Cond.code (⟨"com/example/sidetrip/sidetrip/dispatch/Bits", "intersects", "([J[J)Z"⟩ : MethodName) prog_15_method_8_code 3 (some .boolean) :: ws) ({ frames := 0, cells := 0, slots := 0, locals := 0 } : Room)) (fun a U => a = #[(.ref a1), (.ref a2)] ∧ Z.Warmed39 U.vm ∧ U.heap = h0) (fun _ _ _ _ _ => True) (fun _ U o U' => ∃ v L, o = .returned v ∧ Q1 A B n h0 n0 v U'.heap L ∧ FrameEnd U o U' L ({ frames := 0, cells := 0, slots := 0, locals := 0 } : Room).cells ({ frames := 0, cells := 0, slots := 0, locals := 0 } : Room).slots) := by
  refine MetFree.of_bodySF (plainFor_of_name pn_1) hisR ?_
  intro p e s m args below meth c s₁ Bd hml0 hP hK
  obtain ⟨rfl, hZ, hh0⟩ := hP
  have hx := Bd.exec
  have hby := Bd.bytes
  have hml : c.maxLocals = 3 := hml0
  have hown : s.vm.findClass "com/example/sidetrip/sidetrip/dispatch/Bits" = some m.cls := findClass_of_methodNamed Bd.named
  have X0 : Stand p l e ({ frames := 0, cells := 0, slots := 0, locals := 0 } : Room) s m #[(.ref a1), (.ref a2)] below meth c s₁ [] 0 0 := Stand.of_body Bd
  have e0 : s₁.heap = h0 := by rw [← hh0, Bd.state]; rfl
  have N0 := Fr.nil n0
  have pre0 : ∀ t, Steps p.tables e below (s₁.setTop (mkF m 0 #[.val (.ref a1), .val (.ref a2), .unset] [])) t → Steps p.tables e below (s₁.setTop (entryFrame m #[(.ref a1), (.ref a2)] 3)) t := fun t k => castTop (ef_1 m a1 a2) k
  obtain ⟨cl0, Ar0, S0, at0⟩ := V1
  obtain ⟨cl1, Ar1, S1, at1⟩ := V2
  obtain ⟨j, lp⟩ := own_loop1 (a0 := a0) a1 a2 cl0 cl1 n mm A B X0 hx hZ hw hby hown e0 Ar0 Ar1 S0 S1 hm hnm at0 at1 n 0 (by omega)
  cases hh : own_hit A B 0 n
  · obtain ⟨fs, hr, hrun, hended, hW, hsame⟩ := X0.leave (v := some (.int (0 : Int32))) (fun h => by rw [Bd.returns] at h; cases h)
    refine ⟨_, _, pre0 _ ?_, hrun, hended, _, _, rfl, ?_, ⟨_, rfl⟩, hW, hsame.mono (by decide) (by decide)⟩
    · show Steps p.tables e below (s₁.setTop (mkF m 0 #[.val (.ref a1), .val (.ref a2), .unset] [])) _
      refine XS.iconst X0.here hx rfl (hb hby d1_0) ?_
      show Steps p.tables e below (s₁.setTop (mkF m 1 #[.val (.ref a1), .val (.ref a2), .unset] [(.int (0 : Int32))])) _
      refine XS.istoreN X0.here hx rfl (hb hby d1_1) rfl (l' := #[.val (.ref a1), .val (.ref a2), .val (.int (0 : Int32))]) rfl ?_
      show Steps p.tables e below (s₁.setTop (mkF m 2 #[.val (.ref a1), .val (.ref a2), .val (.int (Int32.ofNat 0))] [])) _
      refine lp _ ?_
      rw [hh]
      show Steps p.tables e below (s₁.setTop (mkF m 28 #[.val (.ref a1), .val (.ref a2), .val (.int j)] [])) _
      refine XS.iconst X0.here hx rfl (hb hby d1_28) ?_
      show Steps p.tables e below (s₁.setTop (mkF m 29 #[.val (.ref a1), .val (.ref a2), .val (.int j)] [(.int (0 : Int32))])) _
      exact retN X0 hx (t := .boolean) Bd.returns (by simp) (hb hby d1_29) hr
    · show Q1 A B n h0 n0 _ s₁.heap _
      rw [e0]
      exact ⟨by rw [hh]; rfl, N0, rfl⟩
  · obtain ⟨fs, hr, hrun, hended, hW, hsame⟩ := X0.leave (v := some (.int (1 : Int32))) (fun h => by rw [Bd.returns] at h; cases h)
    refine ⟨_, _, pre0 _ ?_, hrun, hended, _, _, rfl, ?_, ⟨_, rfl⟩, hW, hsame.mono (by decide) (by decide)⟩
    · show Steps p.tables e below (s₁.setTop (mkF m 0 #[.val (.ref a1), .val (.ref a2), .unset] [])) _
      refine XS.iconst X0.here hx rfl (hb hby d1_0) ?_
      show Steps p.tables e below (s₁.setTop (mkF m 1 #[.val (.ref a1), .val (.ref a2), .unset] [(.int (0 : Int32))])) _
      refine XS.istoreN X0.here hx rfl (hb hby d1_1) rfl (l' := #[.val (.ref a1), .val (.ref a2), .val (.int (0 : Int32))]) rfl ?_
      show Steps p.tables e below (s₁.setTop (mkF m 2 #[.val (.ref a1), .val (.ref a2), .val (.int (Int32.ofNat 0))] [])) _
      refine lp _ ?_
      rw [hh]
      show Steps p.tables e below (s₁.setTop (mkF m 20 #[.val (.ref a1), .val (.ref a2), .val (.int j)] [])) _
      refine XS.iconst X0.here hx rfl (hb hby d1_20) ?_
      show Steps p.tables e below (s₁.setTop (mkF m 21 #[.val (.ref a1), .val (.ref a2), .val (.int j)] [(.int (1 : Int32))])) _
      exact retN X0 hx (t := .boolean) Bd.returns (by simp) (hb hby d1_21) hr
    · show Q1 A B n h0 n0 _ s₁.heap _
      rw [e0]
      exact ⟨by rw [hh]; rfl, N0, rfl⟩
set_option maxRecDepth 65536 in
set_option maxHeartbeats 40000000 in
theorem sg0 {p : Program} {l : Launch} {e : Env} {R : Room} {s : State} {m : MethodId} {args : Array Value} {below : List Frame} {meth : Method} {c : Code} {T0 : State} {locs : List Loc} {cells slots : Nat} {Z : State} {a0 : Array Value} {h0 : Heap} (q1 q2 q3 q4 q5 : Int64) (p6 : Int32)
    (X0 : Stand p l e R s m args below meth c T0 locs cells slots) (hx : p.tables.exec = Jvm.exec) (hZ : Z.Warmed39 s.vm) (hw : ∀ d ∈ tables_1, d.before a0 Z = true) (hby : c.code = code) (hown : s.vm.findClass "com/example/sidetrip/sidetrip/dispatch/BitsIntersectsPinLaw" = some m.cls) (e0 : T0.heap = h0)  {target : State} (kt : Steps p.tables e below (T0.setTop (mkF m 19 #[.val (.long q1), .second, .val (.long q2), .second, .val (.long q3), .second, .val (.long q4), .second, .val (.long q5), .second, .val (.int p6), .val (.int ((p6 &&& (3 : Int32)) % (3 : Int32))), .val (.int (((p6 &&& (3 : Int32)) % (3 : Int32)) + ((XT.ushr p6 (2 : Int32)) &&& (1 : Int32)))), .unset, .unset, .unset] [])) target) :
    Steps p.tables e below (T0.setTop (mkF m 0 #[.val (.long q1), .second, .val (.long q2), .second, .val (.long q3), .second, .val (.long q4), .second, .val (.long q5), .second, .val (.int p6), .unset, .unset, .unset, .unset, .unset] [])) target := by
  show Steps p.tables e below (T0.setTop (mkF m 0 #[.val (.long q1), .second, .val (.long q2), .second, .val (.long q3), .second, .val (.long q4), .second, .val (.long q5), .second, .val (.int p6), .unset, .unset, .unset, .unset, .unset] [])) _
  refine XS.iload X0.here hx rfl (hb hby at_0) rfl ?_
  show Steps p.tables e below (T0.setTop (mkF m 2 #[.val (.long q1), .second, .val (.long q2), .second, .val (.long q3), .second, .val (.long q4), .second, .val (.long q5), .second, .val (.int p6), .unset, .unset, .unset, .unset, .unset] [(.int p6)])) _
  refine XS.iconst X0.here hx rfl (hb hby at_2) ?_
  show Steps p.tables e below (T0.setTop (mkF m 3 #[.val (.long q1), .second, .val (.long q2), .second, .val (.long q3), .second, .val (.long q4), .second, .val (.long q5), .second, .val (.int p6), .unset, .unset, .unset, .unset, .unset] [(.int (3 : Int32)), (.int p6)])) _
  refine XS.iand X0.here hx rfl (hb hby at_3) rfl ?_
  show Steps p.tables e below (T0.setTop (mkF m 4 #[.val (.long q1), .second, .val (.long q2), .second, .val (.long q3), .second, .val (.long q4), .second, .val (.long q5), .second, .val (.int p6), .unset, .unset, .unset, .unset, .unset] [(.int (p6 &&& (3 : Int32)))])) _
  refine XS.iconst X0.here hx rfl (hb hby at_4) ?_
  show Steps p.tables e below (T0.setTop (mkF m 5 #[.val (.long q1), .second, .val (.long q2), .second, .val (.long q3), .second, .val (.long q4), .second, .val (.long q5), .second, .val (.int p6), .unset, .unset, .unset, .unset, .unset] [(.int (3 : Int32)), (.int (p6 &&& (3 : Int32)))])) _
  refine iremM (g := (mkF m 5 #[.val (.long q1), .second, .val (.long q2), .second, .val (.long q3), .second, .val (.long q4), .second, .val (.long q5), .second, .val (.int p6), .unset, .unset, .unset, .unset, .unset] [(.int (3 : Int32)), (.int (p6 &&& (3 : Int32)))])) X0 hx rfl (hb hby at_5) rfl (by decide) ?_
  show Steps p.tables e below (T0.setTop (mkF m 6 #[.val (.long q1), .second, .val (.long q2), .second, .val (.long q3), .second, .val (.long q4), .second, .val (.long q5), .second, .val (.int p6), .unset, .unset, .unset, .unset, .unset] [(.int ((p6 &&& (3 : Int32)) % (3 : Int32)))])) _
  refine XS.istore X0.here hx rfl (hb hby at_6) rfl (l' := #[.val (.long q1), .second, .val (.long q2), .second, .val (.long q3), .second, .val (.long q4), .second, .val (.long q5), .second, .val (.int p6), .val (.int ((p6 &&& (3 : Int32)) % (3 : Int32))), .unset, .unset, .unset, .unset]) rfl ?_
  show Steps p.tables e below (T0.setTop (mkF m 8 #[.val (.long q1), .second, .val (.long q2), .second, .val (.long q3), .second, .val (.long q4), .second, .val (.long q5), .second, .val (.int p6), .val (.int ((p6 &&& (3 : Int32)) % (3 : Int32))), .unset, .unset, .unset, .unset] [])) _
  refine XS.iload X0.here hx rfl (hb hby at_8) rfl ?_
  show Steps p.tables e below (T0.setTop (mkF m 10 #[.val (.long q1), .second, .val (.long q2), .second, .val (.long q3), .second, .val (.long q4), .second, .val (.long q5), .second, .val (.int p6), .val (.int ((p6 &&& (3 : Int32)) % (3 : Int32))), .unset, .unset, .unset, .unset] [(.int ((p6 &&& (3 : Int32)) % (3 : Int32)))])) _
  refine XS.iload X0.here hx rfl (hb hby at_10) rfl ?_
  show Steps p.tables e below (T0.setTop (mkF m 12 #[.val (.long q1), .second, .val (.long q2), .second, .val (.long q3), .second, .val (.long q4), .second, .val (.long q5), .second, .val (.int p6), .val (.int ((p6 &&& (3 : Int32)) % (3 : Int32))), .unset, .unset, .unset, .unset] [(.int p6), (.int ((p6 &&& (3 : Int32)) % (3 : Int32)))])) _
  refine XS.iconst X0.here hx rfl (hb hby at_12) ?_
  show Steps p.tables e below (T0.setTop (mkF m 13 #[.val (.long q1), .second, .val (.long q2), .second, .val (.long q3), .second, .val (.long q4), .second, .val (.long q5), .second, .val (.int p6), .val (.int ((p6 &&& (3 : Int32)) % (3 : Int32))), .unset, .unset, .unset, .unset] [(.int (2 : Int32)), (.int p6), (.int ((p6 &&& (3 : Int32)) % (3 : Int32)))])) _
  refine XS.iushr X0.here hx rfl (hb hby at_13) rfl ?_
  show Steps p.tables e below (T0.setTop (mkF m 14 #[.val (.long q1), .second, .val (.long q2), .second, .val (.long q3), .second, .val (.long q4), .second, .val (.long q5), .second, .val (.int p6), .val (.int ((p6 &&& (3 : Int32)) % (3 : Int32))), .unset, .unset, .unset, .unset] [(.int (XT.ushr p6 (2 : Int32))), (.int ((p6 &&& (3 : Int32)) % (3 : Int32)))])) _
  refine XS.iconst X0.here hx rfl (hb hby at_14) ?_
  show Steps p.tables e below (T0.setTop (mkF m 15 #[.val (.long q1), .second, .val (.long q2), .second, .val (.long q3), .second, .val (.long q4), .second, .val (.long q5), .second, .val (.int p6), .val (.int ((p6 &&& (3 : Int32)) % (3 : Int32))), .unset, .unset, .unset, .unset] [(.int (1 : Int32)), (.int (XT.ushr p6 (2 : Int32))), (.int ((p6 &&& (3 : Int32)) % (3 : Int32)))])) _
  refine XS.iand X0.here hx rfl (hb hby at_15) rfl ?_
  show Steps p.tables e below (T0.setTop (mkF m 16 #[.val (.long q1), .second, .val (.long q2), .second, .val (.long q3), .second, .val (.long q4), .second, .val (.long q5), .second, .val (.int p6), .val (.int ((p6 &&& (3 : Int32)) % (3 : Int32))), .unset, .unset, .unset, .unset] [(.int ((XT.ushr p6 (2 : Int32)) &&& (1 : Int32))), (.int ((p6 &&& (3 : Int32)) % (3 : Int32)))])) _
  refine XS.iadd X0.here hx rfl (hb hby at_16) rfl ?_
  show Steps p.tables e below (T0.setTop (mkF m 17 #[.val (.long q1), .second, .val (.long q2), .second, .val (.long q3), .second, .val (.long q4), .second, .val (.long q5), .second, .val (.int p6), .val (.int ((p6 &&& (3 : Int32)) % (3 : Int32))), .unset, .unset, .unset, .unset] [(.int (((p6 &&& (3 : Int32)) % (3 : Int32)) + ((XT.ushr p6 (2 : Int32)) &&& (1 : Int32))))])) _
  refine XS.istore X0.here hx rfl (hb hby at_17) rfl (l' := #[.val (.long q1), .second, .val (.long q2), .second, .val (.long q3), .second, .val (.long q4), .second, .val (.long q5), .second, .val (.int p6), .val (.int ((p6 &&& (3 : Int32)) % (3 : Int32))), .val (.int (((p6 &&& (3 : Int32)) % (3 : Int32)) + ((XT.ushr p6 (2 : Int32)) &&& (1 : Int32)))), .unset, .unset, .unset]) rfl ?_
  exact kt
set_option maxRecDepth 65536 in
set_option maxHeartbeats 40000000 in
theorem fill_0_0 {p : Program} {l : Launch} {e : Env} {s : State} {m : MethodId} {args : Array Value} {below : List Frame} {meth : Method} {c : Code} {T0 : State} {locs : List Loc} {Z : State} {a0 : Array Value} {h0 : Heap} {n0 : Nat} (q1 q2 q3 q4 q5 : Int64) (p6 : Int32)
    (X0 : Stand p l e room_1 s m args below meth c T0 locs 0 0) (hx : p.tables.exec = Jvm.exec) (hZ : Z.Warmed39 s.vm) (hw : ∀ d ∈ tables_1, d.before a0 Z = true) (hby : c.code = code) (hown : s.vm.findClass "com/example/sidetrip/sidetrip/dispatch/BitsIntersectsPinLaw" = some m.cls) (e0 : T0.heap = h0) (Z0 : n0 ≤ h0.size) (N0 : Fr n0 locs) :
    ∃ (T' : State) (h' : Heap) (o1 o2 : Addr) (locs' : List Loc), Stand p l e room_1 s m args below meth c T' locs' 2 5 ∧ T'.heap = h' ∧ Fr n0 locs' ∧ n0 ≤ h'.size ∧ AF Z h' o1 .long 0 (fun j => .long (own_A q1 q2 j)) ∧ AF Z h' o2 .long 0 (fun j => .long (own_B q3 q4 q5 j)) ∧
      ∀ target, Steps p.tables e below (T'.setTop (mkF m 89 #[.val (.long q1), .second, .val (.long q2), .second, .val (.long q3), .second, .val (.long q4), .second, .val (.long q5), .second, .val (.int p6), .val (.int (0 : Int32)), .val (.int (0 : Int32)), .val (.ref o1), .val (.ref o2), .unset] [])) target → Steps p.tables e below (T0.setTop (mkF m 19 #[.val (.long q1), .second, .val (.long q2), .second, .val (.long q3), .second, .val (.long q4), .second, .val (.long q5), .second, .val (.int p6), .val (.int (0 : Int32)), .val (.int (0 : Int32)), .unset, .unset, .unset] [])) target := by
  obtain ⟨T1, h1, k1, X1, e1, E1, A1, st1⟩ := newP X0 hx hZ (hw _ (List.mem_of_getElem? (i := 0) rfl)) e0 (g := (mkF m 21 #[.val (.long q1), .second, .val (.long q2), .second, .val (.long q3), .second, .val (.long q4), .second, .val (.long q5), .second, .val (.int p6), .val (.int (0 : Int32)), .val (.int (0 : Int32)), .unset, .unset, .unset] [(.int (0 : Int32))])) rfl (hb hby at_21) rfl (by decide) (cap := 2) (by decide) (by decide) (by decide) (by decide)
  have V1_1 : AF Z h1 h0.size .long 0 (fun _ => .long 0) := AF.new A1 (by decide)
  obtain ⟨T2, h2, k2, X2, e2, E2, A2, st2⟩ := newP X1 hx hZ (hw _ (List.mem_of_getElem? (i := 0) rfl)) e1 (g := (mkF m 27 #[.val (.long q1), .second, .val (.long q2), .second, .val (.long q3), .second, .val (.long q4), .second, .val (.long q5), .second, .val (.int p6), .val (.int (0 : Int32)), .val (.int (0 : Int32)), .val (.ref h0.size), .unset, .unset] [(.int (0 : Int32))])) rfl (hb hby at_27) rfl (by decide) (cap := 3) (by decide) (by decide) (by decide) (by decide)
  have V2_2 : AF Z h2 h1.size .long 0 (fun _ => .long 0) := AF.new A2 (by decide)
  have V1_2 := V1_1.ext E2
  have ne12 : h0.size ≠ h1.size := Nat.ne_of_lt V1_1.lt
  have g1 : n0 ≤ h0.size := Z0
  have g2 : n0 ≤ h1.size := Nat.le_trans Z0 E1.1
  have Z2 : n0 ≤ h2.size := Nat.le_trans g2 E2.1
  have F1 : AF Z h2 h0.size .long 0 (fun j => .long (own_A q1 q2 j)) := V1_2.congr (fun j hj => absurd hj (Nat.not_lt_zero j))
  have F2 : AF Z h2 h1.size .long 0 (fun j => .long (own_B q3 q4 q5 j)) := V2_2.congr (fun j hj => absurd hj (Nat.not_lt_zero j))
  refine ⟨T2, h2, h0.size, h1.size, _, X2, e2, N0, Z2, F1, F2, fun target kt => ?_⟩
  show Steps p.tables e below (T0.setTop (mkF m 19 #[.val (.long q1), .second, .val (.long q2), .second, .val (.long q3), .second, .val (.long q4), .second, .val (.long q5), .second, .val (.int p6), .val (.int (0 : Int32)), .val (.int (0 : Int32)), .unset, .unset, .unset] [])) _
  refine XS.iload X0.here hx rfl (hb hby at_19) rfl ?_
  show Steps p.tables e below (T0.setTop (mkF m 21 #[.val (.long q1), .second, .val (.long q2), .second, .val (.long q3), .second, .val (.long q4), .second, .val (.long q5), .second, .val (.int p6), .val (.int (0 : Int32)), .val (.int (0 : Int32)), .unset, .unset, .unset] [(.int (0 : Int32))])) _
  refine st1 _ ?_
  show Steps p.tables e below (T1.setTop (mkF m 23 #[.val (.long q1), .second, .val (.long q2), .second, .val (.long q3), .second, .val (.long q4), .second, .val (.long q5), .second, .val (.int p6), .val (.int (0 : Int32)), .val (.int (0 : Int32)), .unset, .unset, .unset] [(.ref h0.size)])) _
  refine XS.astore X1.here hx rfl (hb hby at_23) rfl rfl (l' := #[.val (.long q1), .second, .val (.long q2), .second, .val (.long q3), .second, .val (.long q4), .second, .val (.long q5), .second, .val (.int p6), .val (.int (0 : Int32)), .val (.int (0 : Int32)), .val (.ref h0.size), .unset, .unset]) rfl ?_
  show Steps p.tables e below (T1.setTop (mkF m 25 #[.val (.long q1), .second, .val (.long q2), .second, .val (.long q3), .second, .val (.long q4), .second, .val (.long q5), .second, .val (.int p6), .val (.int (0 : Int32)), .val (.int (0 : Int32)), .val (.ref h0.size), .unset, .unset] [])) _
  refine XS.iload X1.here hx rfl (hb hby at_25) rfl ?_
  show Steps p.tables e below (T1.setTop (mkF m 27 #[.val (.long q1), .second, .val (.long q2), .second, .val (.long q3), .second, .val (.long q4), .second, .val (.long q5), .second, .val (.int p6), .val (.int (0 : Int32)), .val (.int (0 : Int32)), .val (.ref h0.size), .unset, .unset] [(.int (0 : Int32))])) _
  refine st2 _ ?_
  show Steps p.tables e below (T2.setTop (mkF m 29 #[.val (.long q1), .second, .val (.long q2), .second, .val (.long q3), .second, .val (.long q4), .second, .val (.long q5), .second, .val (.int p6), .val (.int (0 : Int32)), .val (.int (0 : Int32)), .val (.ref h0.size), .unset, .unset] [(.ref h1.size)])) _
  refine XS.astore X2.here hx rfl (hb hby at_29) rfl rfl (l' := #[.val (.long q1), .second, .val (.long q2), .second, .val (.long q3), .second, .val (.long q4), .second, .val (.long q5), .second, .val (.int p6), .val (.int (0 : Int32)), .val (.int (0 : Int32)), .val (.ref h0.size), .val (.ref h1.size), .unset]) rfl ?_
  show Steps p.tables e below (T2.setTop (mkF m 31 #[.val (.long q1), .second, .val (.long q2), .second, .val (.long q3), .second, .val (.long q4), .second, .val (.long q5), .second, .val (.int p6), .val (.int (0 : Int32)), .val (.int (0 : Int32)), .val (.ref h0.size), .val (.ref h1.size), .unset] [])) _
  refine XS.iload X2.here hx rfl (hb hby at_31) rfl ?_
  show Steps p.tables e below (T2.setTop (mkF m 33 #[.val (.long q1), .second, .val (.long q2), .second, .val (.long q3), .second, .val (.long q4), .second, .val (.long q5), .second, .val (.int p6), .val (.int (0 : Int32)), .val (.int (0 : Int32)), .val (.ref h0.size), .val (.ref h1.size), .unset] [(.int (0 : Int32))])) _
  refine XS.iconst X2.here hx rfl (hb hby at_33) ?_
  show Steps p.tables e below (T2.setTop (mkF m 34 #[.val (.long q1), .second, .val (.long q2), .second, .val (.long q3), .second, .val (.long q4), .second, .val (.long q5), .second, .val (.int p6), .val (.int (0 : Int32)), .val (.int (0 : Int32)), .val (.ref h0.size), .val (.ref h1.size), .unset] [(.int (1 : Int32)), (.int (0 : Int32))])) _
  refine XS.icmpYes X2.here hx rfl (pc0 := 34) (pc' := 42) rfl (hb hby at_34) rfl (tlt (by decide)).1 (by decide) (by decide) ?_
  show Steps p.tables e below (T2.setTop (mkF m 42 #[.val (.long q1), .second, .val (.long q2), .second, .val (.long q3), .second, .val (.long q4), .second, .val (.long q5), .second, .val (.int p6), .val (.int (0 : Int32)), .val (.int (0 : Int32)), .val (.ref h0.size), .val (.ref h1.size), .unset] [])) _
  refine XS.iload X2.here hx rfl (hb hby at_42) rfl ?_
  show Steps p.tables e below (T2.setTop (mkF m 44 #[.val (.long q1), .second, .val (.long q2), .second, .val (.long q3), .second, .val (.long q4), .second, .val (.long q5), .second, .val (.int p6), .val (.int (0 : Int32)), .val (.int (0 : Int32)), .val (.ref h0.size), .val (.ref h1.size), .unset] [(.int (0 : Int32))])) _
  refine XS.iconst X2.here hx rfl (hb hby at_44) ?_
  show Steps p.tables e below (T2.setTop (mkF m 45 #[.val (.long q1), .second, .val (.long q2), .second, .val (.long q3), .second, .val (.long q4), .second, .val (.long q5), .second, .val (.int p6), .val (.int (0 : Int32)), .val (.int (0 : Int32)), .val (.ref h0.size), .val (.ref h1.size), .unset] [(.int (2 : Int32)), (.int (0 : Int32))])) _
  refine XS.icmpYes X2.here hx rfl (pc0 := 45) (pc' := 53) rfl (hb hby at_45) rfl (tlt (by decide)).1 (by decide) (by decide) ?_
  show Steps p.tables e below (T2.setTop (mkF m 53 #[.val (.long q1), .second, .val (.long q2), .second, .val (.long q3), .second, .val (.long q4), .second, .val (.long q5), .second, .val (.int p6), .val (.int (0 : Int32)), .val (.int (0 : Int32)), .val (.ref h0.size), .val (.ref h1.size), .unset] [])) _
  refine XS.iload X2.here hx rfl (hb hby at_53) rfl ?_
  show Steps p.tables e below (T2.setTop (mkF m 55 #[.val (.long q1), .second, .val (.long q2), .second, .val (.long q3), .second, .val (.long q4), .second, .val (.long q5), .second, .val (.int p6), .val (.int (0 : Int32)), .val (.int (0 : Int32)), .val (.ref h0.size), .val (.ref h1.size), .unset] [(.int (0 : Int32))])) _
  refine XS.iconst X2.here hx rfl (hb hby at_55) ?_
  show Steps p.tables e below (T2.setTop (mkF m 56 #[.val (.long q1), .second, .val (.long q2), .second, .val (.long q3), .second, .val (.long q4), .second, .val (.long q5), .second, .val (.int p6), .val (.int (0 : Int32)), .val (.int (0 : Int32)), .val (.ref h0.size), .val (.ref h1.size), .unset] [(.int (1 : Int32)), (.int (0 : Int32))])) _
  refine XS.icmpYes X2.here hx rfl (pc0 := 56) (pc' := 65) rfl (hb hby at_56) rfl (tlt (by decide)).1 (by decide) (by decide) ?_
  show Steps p.tables e below (T2.setTop (mkF m 65 #[.val (.long q1), .second, .val (.long q2), .second, .val (.long q3), .second, .val (.long q4), .second, .val (.long q5), .second, .val (.int p6), .val (.int (0 : Int32)), .val (.int (0 : Int32)), .val (.ref h0.size), .val (.ref h1.size), .unset] [])) _
  refine XS.iload X2.here hx rfl (hb hby at_65) rfl ?_
  show Steps p.tables e below (T2.setTop (mkF m 67 #[.val (.long q1), .second, .val (.long q2), .second, .val (.long q3), .second, .val (.long q4), .second, .val (.long q5), .second, .val (.int p6), .val (.int (0 : Int32)), .val (.int (0 : Int32)), .val (.ref h0.size), .val (.ref h1.size), .unset] [(.int (0 : Int32))])) _
  refine XS.iconst X2.here hx rfl (hb hby at_67) ?_
  show Steps p.tables e below (T2.setTop (mkF m 68 #[.val (.long q1), .second, .val (.long q2), .second, .val (.long q3), .second, .val (.long q4), .second, .val (.long q5), .second, .val (.int p6), .val (.int (0 : Int32)), .val (.int (0 : Int32)), .val (.ref h0.size), .val (.ref h1.size), .unset] [(.int (2 : Int32)), (.int (0 : Int32))])) _
  refine XS.icmpYes X2.here hx rfl (pc0 := 68) (pc' := 77) rfl (hb hby at_68) rfl (tlt (by decide)).1 (by decide) (by decide) ?_
  show Steps p.tables e below (T2.setTop (mkF m 77 #[.val (.long q1), .second, .val (.long q2), .second, .val (.long q3), .second, .val (.long q4), .second, .val (.long q5), .second, .val (.int p6), .val (.int (0 : Int32)), .val (.int (0 : Int32)), .val (.ref h0.size), .val (.ref h1.size), .unset] [])) _
  refine XS.iload X2.here hx rfl (hb hby at_77) rfl ?_
  show Steps p.tables e below (T2.setTop (mkF m 79 #[.val (.long q1), .second, .val (.long q2), .second, .val (.long q3), .second, .val (.long q4), .second, .val (.long q5), .second, .val (.int p6), .val (.int (0 : Int32)), .val (.int (0 : Int32)), .val (.ref h0.size), .val (.ref h1.size), .unset] [(.int (0 : Int32))])) _
  refine XS.iconst X2.here hx rfl (hb hby at_79) ?_
  show Steps p.tables e below (T2.setTop (mkF m 80 #[.val (.long q1), .second, .val (.long q2), .second, .val (.long q3), .second, .val (.long q4), .second, .val (.long q5), .second, .val (.int p6), .val (.int (0 : Int32)), .val (.int (0 : Int32)), .val (.ref h0.size), .val (.ref h1.size), .unset] [(.int (3 : Int32)), (.int (0 : Int32))])) _
  refine XS.icmpYes X2.here hx rfl (pc0 := 80) (pc' := 89) rfl (hb hby at_80) rfl (tlt (by decide)).1 (by decide) (by decide) ?_
  exact kt
set_option maxRecDepth 65536 in
set_option maxHeartbeats 40000000 in
theorem fill_0_1 {p : Program} {l : Launch} {e : Env} {s : State} {m : MethodId} {args : Array Value} {below : List Frame} {meth : Method} {c : Code} {T0 : State} {locs : List Loc} {Z : State} {a0 : Array Value} {h0 : Heap} {n0 : Nat} (q1 q2 q3 q4 q5 : Int64) (p6 : Int32)
    (X0 : Stand p l e room_1 s m args below meth c T0 locs 0 0) (hx : p.tables.exec = Jvm.exec) (hZ : Z.Warmed39 s.vm) (hw : ∀ d ∈ tables_1, d.before a0 Z = true) (hby : c.code = code) (hown : s.vm.findClass "com/example/sidetrip/sidetrip/dispatch/BitsIntersectsPinLaw" = some m.cls) (e0 : T0.heap = h0) (Z0 : n0 ≤ h0.size) (N0 : Fr n0 locs) :
    ∃ (T' : State) (h' : Heap) (o1 o2 : Addr) (locs' : List Loc), Stand p l e room_1 s m args below meth c T' locs' 2 5 ∧ T'.heap = h' ∧ Fr n0 locs' ∧ n0 ≤ h'.size ∧ AF Z h' o1 .long 0 (fun j => .long (own_A q1 q2 j)) ∧ AF Z h' o2 .long 1 (fun j => .long (own_B q3 q4 q5 j)) ∧
      ∀ target, Steps p.tables e below (T'.setTop (mkF m 89 #[.val (.long q1), .second, .val (.long q2), .second, .val (.long q3), .second, .val (.long q4), .second, .val (.long q5), .second, .val (.int p6), .val (.int (0 : Int32)), .val (.int (1 : Int32)), .val (.ref o1), .val (.ref o2), .unset] [])) target → Steps p.tables e below (T0.setTop (mkF m 19 #[.val (.long q1), .second, .val (.long q2), .second, .val (.long q3), .second, .val (.long q4), .second, .val (.long q5), .second, .val (.int p6), .val (.int (0 : Int32)), .val (.int (1 : Int32)), .unset, .unset, .unset] [])) target := by
  obtain ⟨T1, h1, k1, X1, e1, E1, A1, st1⟩ := newP X0 hx hZ (hw _ (List.mem_of_getElem? (i := 0) rfl)) e0 (g := (mkF m 21 #[.val (.long q1), .second, .val (.long q2), .second, .val (.long q3), .second, .val (.long q4), .second, .val (.long q5), .second, .val (.int p6), .val (.int (0 : Int32)), .val (.int (1 : Int32)), .unset, .unset, .unset] [(.int (0 : Int32))])) rfl (hb hby at_21) rfl (by decide) (cap := 2) (by decide) (by decide) (by decide) (by decide)
  have V1_1 : AF Z h1 h0.size .long 0 (fun _ => .long 0) := AF.new A1 (by decide)
  obtain ⟨T2, h2, k2, X2, e2, E2, A2, st2⟩ := newP X1 hx hZ (hw _ (List.mem_of_getElem? (i := 0) rfl)) e1 (g := (mkF m 27 #[.val (.long q1), .second, .val (.long q2), .second, .val (.long q3), .second, .val (.long q4), .second, .val (.long q5), .second, .val (.int p6), .val (.int (0 : Int32)), .val (.int (1 : Int32)), .val (.ref h0.size), .unset, .unset] [(.int (1 : Int32))])) rfl (hb hby at_27) rfl (by decide) (cap := 3) (by decide) (by decide) (by decide) (by decide)
  have V2_2 : AF Z h2 h1.size .long 1 (fun _ => .long 0) := AF.new A2 (by decide)
  have V1_2 := V1_1.ext E2
  have ne12 : h0.size ≠ h1.size := Nat.ne_of_lt V1_1.lt
  have g1 : n0 ≤ h0.size := Z0
  have g2 : n0 ≤ h1.size := Nat.le_trans Z0 E1.1
  have Z2 : n0 ≤ h2.size := Nat.le_trans g2 E2.1
  obtain ⟨c3, Ar3, S3, H3⟩ := V2_2
  obtain ⟨T3, h3, X3, e3, W3, st3⟩ := stJ X2 hx hZ e2 Ar3 (j := (0 : Int32)) (by rw [S3]; decide) (g := (mkF m 64 #[.val (.long q1), .second, .val (.long q2), .second, .val (.long q3), .second, .val (.long q4), .second, .val (.long q5), .second, .val (.int p6), .val (.int (0 : Int32)), .val (.int (1 : Int32)), .val (.ref h0.size), .val (.ref h1.size), .unset] [(.long q3), (.int (0 : Int32)), (.ref h1.size)])) rfl rfl (hb hby at_64)
  have N3 := Fr.snoc X3 N0 g2
  have V2_3 := AF.set (⟨c3, Ar3, S3, H3⟩ : AF Z h2 h1.size .long 1 _) W3
  have V1_3 := V1_2.other W3 ne12
  have Z3 : n0 ≤ h3.size := by rw [W3.size]; exact Z2
  have F1 : AF Z h3 h0.size .long 0 (fun j => .long (own_A q1 q2 j)) := V1_3.congr (fun j hj => absurd hj (Nat.not_lt_zero j))
  have F2 : AF Z h3 h1.size .long 1 (fun j => .long (own_B q3 q4 q5 j)) := V2_3.congr (fun j hj => by
    match j, hj with
    | 0, _ => rfl)
  refine ⟨T3, h3, h0.size, h1.size, _, X3, e3, N3, Z3, F1, F2, fun target kt => ?_⟩
  show Steps p.tables e below (T0.setTop (mkF m 19 #[.val (.long q1), .second, .val (.long q2), .second, .val (.long q3), .second, .val (.long q4), .second, .val (.long q5), .second, .val (.int p6), .val (.int (0 : Int32)), .val (.int (1 : Int32)), .unset, .unset, .unset] [])) _
  refine XS.iload X0.here hx rfl (hb hby at_19) rfl ?_
  show Steps p.tables e below (T0.setTop (mkF m 21 #[.val (.long q1), .second, .val (.long q2), .second, .val (.long q3), .second, .val (.long q4), .second, .val (.long q5), .second, .val (.int p6), .val (.int (0 : Int32)), .val (.int (1 : Int32)), .unset, .unset, .unset] [(.int (0 : Int32))])) _
  refine st1 _ ?_
  show Steps p.tables e below (T1.setTop (mkF m 23 #[.val (.long q1), .second, .val (.long q2), .second, .val (.long q3), .second, .val (.long q4), .second, .val (.long q5), .second, .val (.int p6), .val (.int (0 : Int32)), .val (.int (1 : Int32)), .unset, .unset, .unset] [(.ref h0.size)])) _
  refine XS.astore X1.here hx rfl (hb hby at_23) rfl rfl (l' := #[.val (.long q1), .second, .val (.long q2), .second, .val (.long q3), .second, .val (.long q4), .second, .val (.long q5), .second, .val (.int p6), .val (.int (0 : Int32)), .val (.int (1 : Int32)), .val (.ref h0.size), .unset, .unset]) rfl ?_
  show Steps p.tables e below (T1.setTop (mkF m 25 #[.val (.long q1), .second, .val (.long q2), .second, .val (.long q3), .second, .val (.long q4), .second, .val (.long q5), .second, .val (.int p6), .val (.int (0 : Int32)), .val (.int (1 : Int32)), .val (.ref h0.size), .unset, .unset] [])) _
  refine XS.iload X1.here hx rfl (hb hby at_25) rfl ?_
  show Steps p.tables e below (T1.setTop (mkF m 27 #[.val (.long q1), .second, .val (.long q2), .second, .val (.long q3), .second, .val (.long q4), .second, .val (.long q5), .second, .val (.int p6), .val (.int (0 : Int32)), .val (.int (1 : Int32)), .val (.ref h0.size), .unset, .unset] [(.int (1 : Int32))])) _
  refine st2 _ ?_
  show Steps p.tables e below (T2.setTop (mkF m 29 #[.val (.long q1), .second, .val (.long q2), .second, .val (.long q3), .second, .val (.long q4), .second, .val (.long q5), .second, .val (.int p6), .val (.int (0 : Int32)), .val (.int (1 : Int32)), .val (.ref h0.size), .unset, .unset] [(.ref h1.size)])) _
  refine XS.astore X2.here hx rfl (hb hby at_29) rfl rfl (l' := #[.val (.long q1), .second, .val (.long q2), .second, .val (.long q3), .second, .val (.long q4), .second, .val (.long q5), .second, .val (.int p6), .val (.int (0 : Int32)), .val (.int (1 : Int32)), .val (.ref h0.size), .val (.ref h1.size), .unset]) rfl ?_
  show Steps p.tables e below (T2.setTop (mkF m 31 #[.val (.long q1), .second, .val (.long q2), .second, .val (.long q3), .second, .val (.long q4), .second, .val (.long q5), .second, .val (.int p6), .val (.int (0 : Int32)), .val (.int (1 : Int32)), .val (.ref h0.size), .val (.ref h1.size), .unset] [])) _
  refine XS.iload X2.here hx rfl (hb hby at_31) rfl ?_
  show Steps p.tables e below (T2.setTop (mkF m 33 #[.val (.long q1), .second, .val (.long q2), .second, .val (.long q3), .second, .val (.long q4), .second, .val (.long q5), .second, .val (.int p6), .val (.int (0 : Int32)), .val (.int (1 : Int32)), .val (.ref h0.size), .val (.ref h1.size), .unset] [(.int (0 : Int32))])) _
  refine XS.iconst X2.here hx rfl (hb hby at_33) ?_
  show Steps p.tables e below (T2.setTop (mkF m 34 #[.val (.long q1), .second, .val (.long q2), .second, .val (.long q3), .second, .val (.long q4), .second, .val (.long q5), .second, .val (.int p6), .val (.int (0 : Int32)), .val (.int (1 : Int32)), .val (.ref h0.size), .val (.ref h1.size), .unset] [(.int (1 : Int32)), (.int (0 : Int32))])) _
  refine XS.icmpYes X2.here hx rfl (pc0 := 34) (pc' := 42) rfl (hb hby at_34) rfl (tlt (by decide)).1 (by decide) (by decide) ?_
  show Steps p.tables e below (T2.setTop (mkF m 42 #[.val (.long q1), .second, .val (.long q2), .second, .val (.long q3), .second, .val (.long q4), .second, .val (.long q5), .second, .val (.int p6), .val (.int (0 : Int32)), .val (.int (1 : Int32)), .val (.ref h0.size), .val (.ref h1.size), .unset] [])) _
  refine XS.iload X2.here hx rfl (hb hby at_42) rfl ?_
  show Steps p.tables e below (T2.setTop (mkF m 44 #[.val (.long q1), .second, .val (.long q2), .second, .val (.long q3), .second, .val (.long q4), .second, .val (.long q5), .second, .val (.int p6), .val (.int (0 : Int32)), .val (.int (1 : Int32)), .val (.ref h0.size), .val (.ref h1.size), .unset] [(.int (0 : Int32))])) _
  refine XS.iconst X2.here hx rfl (hb hby at_44) ?_
  show Steps p.tables e below (T2.setTop (mkF m 45 #[.val (.long q1), .second, .val (.long q2), .second, .val (.long q3), .second, .val (.long q4), .second, .val (.long q5), .second, .val (.int p6), .val (.int (0 : Int32)), .val (.int (1 : Int32)), .val (.ref h0.size), .val (.ref h1.size), .unset] [(.int (2 : Int32)), (.int (0 : Int32))])) _
  refine XS.icmpYes X2.here hx rfl (pc0 := 45) (pc' := 53) rfl (hb hby at_45) rfl (tlt (by decide)).1 (by decide) (by decide) ?_
  show Steps p.tables e below (T2.setTop (mkF m 53 #[.val (.long q1), .second, .val (.long q2), .second, .val (.long q3), .second, .val (.long q4), .second, .val (.long q5), .second, .val (.int p6), .val (.int (0 : Int32)), .val (.int (1 : Int32)), .val (.ref h0.size), .val (.ref h1.size), .unset] [])) _
  refine XS.iload X2.here hx rfl (hb hby at_53) rfl ?_
  show Steps p.tables e below (T2.setTop (mkF m 55 #[.val (.long q1), .second, .val (.long q2), .second, .val (.long q3), .second, .val (.long q4), .second, .val (.long q5), .second, .val (.int p6), .val (.int (0 : Int32)), .val (.int (1 : Int32)), .val (.ref h0.size), .val (.ref h1.size), .unset] [(.int (1 : Int32))])) _
  refine XS.iconst X2.here hx rfl (hb hby at_55) ?_
  show Steps p.tables e below (T2.setTop (mkF m 56 #[.val (.long q1), .second, .val (.long q2), .second, .val (.long q3), .second, .val (.long q4), .second, .val (.long q5), .second, .val (.int p6), .val (.int (0 : Int32)), .val (.int (1 : Int32)), .val (.ref h0.size), .val (.ref h1.size), .unset] [(.int (1 : Int32)), (.int (1 : Int32))])) _
  refine XS.icmpNo X2.here hx rfl (hb hby at_56) rfl (flt (by decide)).1 ?_
  show Steps p.tables e below (T2.setTop (mkF m 59 #[.val (.long q1), .second, .val (.long q2), .second, .val (.long q3), .second, .val (.long q4), .second, .val (.long q5), .second, .val (.int p6), .val (.int (0 : Int32)), .val (.int (1 : Int32)), .val (.ref h0.size), .val (.ref h1.size), .unset] [])) _
  refine XS.aload X2.here hx rfl (hb hby at_59) rfl rfl ?_
  show Steps p.tables e below (T2.setTop (mkF m 61 #[.val (.long q1), .second, .val (.long q2), .second, .val (.long q3), .second, .val (.long q4), .second, .val (.long q5), .second, .val (.int p6), .val (.int (0 : Int32)), .val (.int (1 : Int32)), .val (.ref h0.size), .val (.ref h1.size), .unset] [(.ref h1.size)])) _
  refine XS.iconst X2.here hx rfl (hb hby at_61) ?_
  show Steps p.tables e below (T2.setTop (mkF m 62 #[.val (.long q1), .second, .val (.long q2), .second, .val (.long q3), .second, .val (.long q4), .second, .val (.long q5), .second, .val (.int p6), .val (.int (0 : Int32)), .val (.int (1 : Int32)), .val (.ref h0.size), .val (.ref h1.size), .unset] [(.int (0 : Int32)), (.ref h1.size)])) _
  refine XS.lload X2.here hx rfl (hb hby at_62) rfl ?_
  show Steps p.tables e below (T2.setTop (mkF m 64 #[.val (.long q1), .second, .val (.long q2), .second, .val (.long q3), .second, .val (.long q4), .second, .val (.long q5), .second, .val (.int p6), .val (.int (0 : Int32)), .val (.int (1 : Int32)), .val (.ref h0.size), .val (.ref h1.size), .unset] [(.long q3), (.int (0 : Int32)), (.ref h1.size)])) _
  refine st3 _ ?_
  show Steps p.tables e below (T3.setTop (mkF m 65 #[.val (.long q1), .second, .val (.long q2), .second, .val (.long q3), .second, .val (.long q4), .second, .val (.long q5), .second, .val (.int p6), .val (.int (0 : Int32)), .val (.int (1 : Int32)), .val (.ref h0.size), .val (.ref h1.size), .unset] [])) _
  refine XS.iload X3.here hx rfl (hb hby at_65) rfl ?_
  show Steps p.tables e below (T3.setTop (mkF m 67 #[.val (.long q1), .second, .val (.long q2), .second, .val (.long q3), .second, .val (.long q4), .second, .val (.long q5), .second, .val (.int p6), .val (.int (0 : Int32)), .val (.int (1 : Int32)), .val (.ref h0.size), .val (.ref h1.size), .unset] [(.int (1 : Int32))])) _
  refine XS.iconst X3.here hx rfl (hb hby at_67) ?_
  show Steps p.tables e below (T3.setTop (mkF m 68 #[.val (.long q1), .second, .val (.long q2), .second, .val (.long q3), .second, .val (.long q4), .second, .val (.long q5), .second, .val (.int p6), .val (.int (0 : Int32)), .val (.int (1 : Int32)), .val (.ref h0.size), .val (.ref h1.size), .unset] [(.int (2 : Int32)), (.int (1 : Int32))])) _
  refine XS.icmpYes X3.here hx rfl (pc0 := 68) (pc' := 77) rfl (hb hby at_68) rfl (tlt (by decide)).1 (by decide) (by decide) ?_
  show Steps p.tables e below (T3.setTop (mkF m 77 #[.val (.long q1), .second, .val (.long q2), .second, .val (.long q3), .second, .val (.long q4), .second, .val (.long q5), .second, .val (.int p6), .val (.int (0 : Int32)), .val (.int (1 : Int32)), .val (.ref h0.size), .val (.ref h1.size), .unset] [])) _
  refine XS.iload X3.here hx rfl (hb hby at_77) rfl ?_
  show Steps p.tables e below (T3.setTop (mkF m 79 #[.val (.long q1), .second, .val (.long q2), .second, .val (.long q3), .second, .val (.long q4), .second, .val (.long q5), .second, .val (.int p6), .val (.int (0 : Int32)), .val (.int (1 : Int32)), .val (.ref h0.size), .val (.ref h1.size), .unset] [(.int (1 : Int32))])) _
  refine XS.iconst X3.here hx rfl (hb hby at_79) ?_
  show Steps p.tables e below (T3.setTop (mkF m 80 #[.val (.long q1), .second, .val (.long q2), .second, .val (.long q3), .second, .val (.long q4), .second, .val (.long q5), .second, .val (.int p6), .val (.int (0 : Int32)), .val (.int (1 : Int32)), .val (.ref h0.size), .val (.ref h1.size), .unset] [(.int (3 : Int32)), (.int (1 : Int32))])) _
  refine XS.icmpYes X3.here hx rfl (pc0 := 80) (pc' := 89) rfl (hb hby at_80) rfl (tlt (by decide)).1 (by decide) (by decide) ?_
  exact kt
set_option maxRecDepth 65536 in
set_option maxHeartbeats 40000000 in
theorem fill_1_1 {p : Program} {l : Launch} {e : Env} {s : State} {m : MethodId} {args : Array Value} {below : List Frame} {meth : Method} {c : Code} {T0 : State} {locs : List Loc} {Z : State} {a0 : Array Value} {h0 : Heap} {n0 : Nat} (q1 q2 q3 q4 q5 : Int64) (p6 : Int32)
    (X0 : Stand p l e room_1 s m args below meth c T0 locs 0 0) (hx : p.tables.exec = Jvm.exec) (hZ : Z.Warmed39 s.vm) (hw : ∀ d ∈ tables_1, d.before a0 Z = true) (hby : c.code = code) (hown : s.vm.findClass "com/example/sidetrip/sidetrip/dispatch/BitsIntersectsPinLaw" = some m.cls) (e0 : T0.heap = h0) (Z0 : n0 ≤ h0.size) (N0 : Fr n0 locs) :
    ∃ (T' : State) (h' : Heap) (o1 o2 : Addr) (locs' : List Loc), Stand p l e room_1 s m args below meth c T' locs' 2 5 ∧ T'.heap = h' ∧ Fr n0 locs' ∧ n0 ≤ h'.size ∧ AF Z h' o1 .long 1 (fun j => .long (own_A q1 q2 j)) ∧ AF Z h' o2 .long 1 (fun j => .long (own_B q3 q4 q5 j)) ∧
      ∀ target, Steps p.tables e below (T'.setTop (mkF m 89 #[.val (.long q1), .second, .val (.long q2), .second, .val (.long q3), .second, .val (.long q4), .second, .val (.long q5), .second, .val (.int p6), .val (.int (1 : Int32)), .val (.int (1 : Int32)), .val (.ref o1), .val (.ref o2), .unset] [])) target → Steps p.tables e below (T0.setTop (mkF m 19 #[.val (.long q1), .second, .val (.long q2), .second, .val (.long q3), .second, .val (.long q4), .second, .val (.long q5), .second, .val (.int p6), .val (.int (1 : Int32)), .val (.int (1 : Int32)), .unset, .unset, .unset] [])) target := by
  obtain ⟨T1, h1, k1, X1, e1, E1, A1, st1⟩ := newP X0 hx hZ (hw _ (List.mem_of_getElem? (i := 0) rfl)) e0 (g := (mkF m 21 #[.val (.long q1), .second, .val (.long q2), .second, .val (.long q3), .second, .val (.long q4), .second, .val (.long q5), .second, .val (.int p6), .val (.int (1 : Int32)), .val (.int (1 : Int32)), .unset, .unset, .unset] [(.int (1 : Int32))])) rfl (hb hby at_21) rfl (by decide) (cap := 2) (by decide) (by decide) (by decide) (by decide)
  have V1_1 : AF Z h1 h0.size .long 1 (fun _ => .long 0) := AF.new A1 (by decide)
  obtain ⟨T2, h2, k2, X2, e2, E2, A2, st2⟩ := newP X1 hx hZ (hw _ (List.mem_of_getElem? (i := 0) rfl)) e1 (g := (mkF m 27 #[.val (.long q1), .second, .val (.long q2), .second, .val (.long q3), .second, .val (.long q4), .second, .val (.long q5), .second, .val (.int p6), .val (.int (1 : Int32)), .val (.int (1 : Int32)), .val (.ref h0.size), .unset, .unset] [(.int (1 : Int32))])) rfl (hb hby at_27) rfl (by decide) (cap := 3) (by decide) (by decide) (by decide) (by decide)
  have V2_2 : AF Z h2 h1.size .long 1 (fun _ => .long 0) := AF.new A2 (by decide)
  have V1_2 := V1_1.ext E2
  have ne12 : h0.size ≠ h1.size := Nat.ne_of_lt V1_1.lt
  have g1 : n0 ≤ h0.size := Z0
  have g2 : n0 ≤ h1.size := Nat.le_trans Z0 E1.1
  have Z2 : n0 ≤ h2.size := Nat.le_trans g2 E2.1
  obtain ⟨c3, Ar3, S3, H3⟩ := V1_2
  obtain ⟨T3, h3, X3, e3, W3, st3⟩ := stJ X2 hx hZ e2 Ar3 (j := (0 : Int32)) (by rw [S3]; decide) (g := (mkF m 41 #[.val (.long q1), .second, .val (.long q2), .second, .val (.long q3), .second, .val (.long q4), .second, .val (.long q5), .second, .val (.int p6), .val (.int (1 : Int32)), .val (.int (1 : Int32)), .val (.ref h0.size), .val (.ref h1.size), .unset] [(.long q1), (.int (0 : Int32)), (.ref h0.size)])) rfl rfl (hb hby at_41)
  have N3 := Fr.snoc X3 N0 g1
  have V1_3 := AF.set (⟨c3, Ar3, S3, H3⟩ : AF Z h2 h0.size .long 1 _) W3
  have V2_3 := V2_2.other W3 ne12.symm
  have Z3 : n0 ≤ h3.size := by rw [W3.size]; exact Z2
  obtain ⟨c4, Ar4, S4, H4⟩ := V2_3
  obtain ⟨T4, h4, X4, e4, W4, st4⟩ := stJ X3 hx hZ e3 Ar4 (j := (0 : Int32)) (by rw [S4]; decide) (g := (mkF m 64 #[.val (.long q1), .second, .val (.long q2), .second, .val (.long q3), .second, .val (.long q4), .second, .val (.long q5), .second, .val (.int p6), .val (.int (1 : Int32)), .val (.int (1 : Int32)), .val (.ref h0.size), .val (.ref h1.size), .unset] [(.long q3), (.int (0 : Int32)), (.ref h1.size)])) rfl rfl (hb hby at_64)
  have N4 := Fr.snoc X4 N3 g2
  have V2_4 := AF.set (⟨c4, Ar4, S4, H4⟩ : AF Z h3 h1.size .long 1 _) W4
  have V1_4 := V1_3.other W4 ne12
  have Z4 : n0 ≤ h4.size := by rw [W4.size]; exact Z3
  have F1 : AF Z h4 h0.size .long 1 (fun j => .long (own_A q1 q2 j)) := V1_4.congr (fun j hj => by
    match j, hj with
    | 0, _ => rfl)
  have F2 : AF Z h4 h1.size .long 1 (fun j => .long (own_B q3 q4 q5 j)) := V2_4.congr (fun j hj => by
    match j, hj with
    | 0, _ => rfl)
  refine ⟨T4, h4, h0.size, h1.size, _, X4, e4, N4, Z4, F1, F2, fun target kt => ?_⟩
  show Steps p.tables e below (T0.setTop (mkF m 19 #[.val (.long q1), .second, .val (.long q2), .second, .val (.long q3), .second, .val (.long q4), .second, .val (.long q5), .second, .val (.int p6), .val (.int (1 : Int32)), .val (.int (1 : Int32)), .unset, .unset, .unset] [])) _
  refine XS.iload X0.here hx rfl (hb hby at_19) rfl ?_
  show Steps p.tables e below (T0.setTop (mkF m 21 #[.val (.long q1), .second, .val (.long q2), .second, .val (.long q3), .second, .val (.long q4), .second, .val (.long q5), .second, .val (.int p6), .val (.int (1 : Int32)), .val (.int (1 : Int32)), .unset, .unset, .unset] [(.int (1 : Int32))])) _
  refine st1 _ ?_
  show Steps p.tables e below (T1.setTop (mkF m 23 #[.val (.long q1), .second, .val (.long q2), .second, .val (.long q3), .second, .val (.long q4), .second, .val (.long q5), .second, .val (.int p6), .val (.int (1 : Int32)), .val (.int (1 : Int32)), .unset, .unset, .unset] [(.ref h0.size)])) _
  refine XS.astore X1.here hx rfl (hb hby at_23) rfl rfl (l' := #[.val (.long q1), .second, .val (.long q2), .second, .val (.long q3), .second, .val (.long q4), .second, .val (.long q5), .second, .val (.int p6), .val (.int (1 : Int32)), .val (.int (1 : Int32)), .val (.ref h0.size), .unset, .unset]) rfl ?_
  show Steps p.tables e below (T1.setTop (mkF m 25 #[.val (.long q1), .second, .val (.long q2), .second, .val (.long q3), .second, .val (.long q4), .second, .val (.long q5), .second, .val (.int p6), .val (.int (1 : Int32)), .val (.int (1 : Int32)), .val (.ref h0.size), .unset, .unset] [])) _
  refine XS.iload X1.here hx rfl (hb hby at_25) rfl ?_
  show Steps p.tables e below (T1.setTop (mkF m 27 #[.val (.long q1), .second, .val (.long q2), .second, .val (.long q3), .second, .val (.long q4), .second, .val (.long q5), .second, .val (.int p6), .val (.int (1 : Int32)), .val (.int (1 : Int32)), .val (.ref h0.size), .unset, .unset] [(.int (1 : Int32))])) _
  refine st2 _ ?_
  show Steps p.tables e below (T2.setTop (mkF m 29 #[.val (.long q1), .second, .val (.long q2), .second, .val (.long q3), .second, .val (.long q4), .second, .val (.long q5), .second, .val (.int p6), .val (.int (1 : Int32)), .val (.int (1 : Int32)), .val (.ref h0.size), .unset, .unset] [(.ref h1.size)])) _
  refine XS.astore X2.here hx rfl (hb hby at_29) rfl rfl (l' := #[.val (.long q1), .second, .val (.long q2), .second, .val (.long q3), .second, .val (.long q4), .second, .val (.long q5), .second, .val (.int p6), .val (.int (1 : Int32)), .val (.int (1 : Int32)), .val (.ref h0.size), .val (.ref h1.size), .unset]) rfl ?_
  show Steps p.tables e below (T2.setTop (mkF m 31 #[.val (.long q1), .second, .val (.long q2), .second, .val (.long q3), .second, .val (.long q4), .second, .val (.long q5), .second, .val (.int p6), .val (.int (1 : Int32)), .val (.int (1 : Int32)), .val (.ref h0.size), .val (.ref h1.size), .unset] [])) _
  refine XS.iload X2.here hx rfl (hb hby at_31) rfl ?_
  show Steps p.tables e below (T2.setTop (mkF m 33 #[.val (.long q1), .second, .val (.long q2), .second, .val (.long q3), .second, .val (.long q4), .second, .val (.long q5), .second, .val (.int p6), .val (.int (1 : Int32)), .val (.int (1 : Int32)), .val (.ref h0.size), .val (.ref h1.size), .unset] [(.int (1 : Int32))])) _
  refine XS.iconst X2.here hx rfl (hb hby at_33) ?_
  show Steps p.tables e below (T2.setTop (mkF m 34 #[.val (.long q1), .second, .val (.long q2), .second, .val (.long q3), .second, .val (.long q4), .second, .val (.long q5), .second, .val (.int p6), .val (.int (1 : Int32)), .val (.int (1 : Int32)), .val (.ref h0.size), .val (.ref h1.size), .unset] [(.int (1 : Int32)), (.int (1 : Int32))])) _
  refine XS.icmpNo X2.here hx rfl (hb hby at_34) rfl (flt (by decide)).1 ?_
  show Steps p.tables e below (T2.setTop (mkF m 37 #[.val (.long q1), .second, .val (.long q2), .second, .val (.long q3), .second, .val (.long q4), .second, .val (.long q5), .second, .val (.int p6), .val (.int (1 : Int32)), .val (.int (1 : Int32)), .val (.ref h0.size), .val (.ref h1.size), .unset] [])) _
  refine XS.aload X2.here hx rfl (hb hby at_37) rfl rfl ?_
  show Steps p.tables e below (T2.setTop (mkF m 39 #[.val (.long q1), .second, .val (.long q2), .second, .val (.long q3), .second, .val (.long q4), .second, .val (.long q5), .second, .val (.int p6), .val (.int (1 : Int32)), .val (.int (1 : Int32)), .val (.ref h0.size), .val (.ref h1.size), .unset] [(.ref h0.size)])) _
  refine XS.iconst X2.here hx rfl (hb hby at_39) ?_
  show Steps p.tables e below (T2.setTop (mkF m 40 #[.val (.long q1), .second, .val (.long q2), .second, .val (.long q3), .second, .val (.long q4), .second, .val (.long q5), .second, .val (.int p6), .val (.int (1 : Int32)), .val (.int (1 : Int32)), .val (.ref h0.size), .val (.ref h1.size), .unset] [(.int (0 : Int32)), (.ref h0.size)])) _
  refine XS.lloadN X2.here hx rfl (hb hby at_40) rfl ?_
  show Steps p.tables e below (T2.setTop (mkF m 41 #[.val (.long q1), .second, .val (.long q2), .second, .val (.long q3), .second, .val (.long q4), .second, .val (.long q5), .second, .val (.int p6), .val (.int (1 : Int32)), .val (.int (1 : Int32)), .val (.ref h0.size), .val (.ref h1.size), .unset] [(.long q1), (.int (0 : Int32)), (.ref h0.size)])) _
  refine st3 _ ?_
  show Steps p.tables e below (T3.setTop (mkF m 42 #[.val (.long q1), .second, .val (.long q2), .second, .val (.long q3), .second, .val (.long q4), .second, .val (.long q5), .second, .val (.int p6), .val (.int (1 : Int32)), .val (.int (1 : Int32)), .val (.ref h0.size), .val (.ref h1.size), .unset] [])) _
  refine XS.iload X3.here hx rfl (hb hby at_42) rfl ?_
  show Steps p.tables e below (T3.setTop (mkF m 44 #[.val (.long q1), .second, .val (.long q2), .second, .val (.long q3), .second, .val (.long q4), .second, .val (.long q5), .second, .val (.int p6), .val (.int (1 : Int32)), .val (.int (1 : Int32)), .val (.ref h0.size), .val (.ref h1.size), .unset] [(.int (1 : Int32))])) _
  refine XS.iconst X3.here hx rfl (hb hby at_44) ?_
  show Steps p.tables e below (T3.setTop (mkF m 45 #[.val (.long q1), .second, .val (.long q2), .second, .val (.long q3), .second, .val (.long q4), .second, .val (.long q5), .second, .val (.int p6), .val (.int (1 : Int32)), .val (.int (1 : Int32)), .val (.ref h0.size), .val (.ref h1.size), .unset] [(.int (2 : Int32)), (.int (1 : Int32))])) _
  refine XS.icmpYes X3.here hx rfl (pc0 := 45) (pc' := 53) rfl (hb hby at_45) rfl (tlt (by decide)).1 (by decide) (by decide) ?_
  show Steps p.tables e below (T3.setTop (mkF m 53 #[.val (.long q1), .second, .val (.long q2), .second, .val (.long q3), .second, .val (.long q4), .second, .val (.long q5), .second, .val (.int p6), .val (.int (1 : Int32)), .val (.int (1 : Int32)), .val (.ref h0.size), .val (.ref h1.size), .unset] [])) _
  refine XS.iload X3.here hx rfl (hb hby at_53) rfl ?_
  show Steps p.tables e below (T3.setTop (mkF m 55 #[.val (.long q1), .second, .val (.long q2), .second, .val (.long q3), .second, .val (.long q4), .second, .val (.long q5), .second, .val (.int p6), .val (.int (1 : Int32)), .val (.int (1 : Int32)), .val (.ref h0.size), .val (.ref h1.size), .unset] [(.int (1 : Int32))])) _
  refine XS.iconst X3.here hx rfl (hb hby at_55) ?_
  show Steps p.tables e below (T3.setTop (mkF m 56 #[.val (.long q1), .second, .val (.long q2), .second, .val (.long q3), .second, .val (.long q4), .second, .val (.long q5), .second, .val (.int p6), .val (.int (1 : Int32)), .val (.int (1 : Int32)), .val (.ref h0.size), .val (.ref h1.size), .unset] [(.int (1 : Int32)), (.int (1 : Int32))])) _
  refine XS.icmpNo X3.here hx rfl (hb hby at_56) rfl (flt (by decide)).1 ?_
  show Steps p.tables e below (T3.setTop (mkF m 59 #[.val (.long q1), .second, .val (.long q2), .second, .val (.long q3), .second, .val (.long q4), .second, .val (.long q5), .second, .val (.int p6), .val (.int (1 : Int32)), .val (.int (1 : Int32)), .val (.ref h0.size), .val (.ref h1.size), .unset] [])) _
  refine XS.aload X3.here hx rfl (hb hby at_59) rfl rfl ?_
  show Steps p.tables e below (T3.setTop (mkF m 61 #[.val (.long q1), .second, .val (.long q2), .second, .val (.long q3), .second, .val (.long q4), .second, .val (.long q5), .second, .val (.int p6), .val (.int (1 : Int32)), .val (.int (1 : Int32)), .val (.ref h0.size), .val (.ref h1.size), .unset] [(.ref h1.size)])) _
  refine XS.iconst X3.here hx rfl (hb hby at_61) ?_
  show Steps p.tables e below (T3.setTop (mkF m 62 #[.val (.long q1), .second, .val (.long q2), .second, .val (.long q3), .second, .val (.long q4), .second, .val (.long q5), .second, .val (.int p6), .val (.int (1 : Int32)), .val (.int (1 : Int32)), .val (.ref h0.size), .val (.ref h1.size), .unset] [(.int (0 : Int32)), (.ref h1.size)])) _
  refine XS.lload X3.here hx rfl (hb hby at_62) rfl ?_
  show Steps p.tables e below (T3.setTop (mkF m 64 #[.val (.long q1), .second, .val (.long q2), .second, .val (.long q3), .second, .val (.long q4), .second, .val (.long q5), .second, .val (.int p6), .val (.int (1 : Int32)), .val (.int (1 : Int32)), .val (.ref h0.size), .val (.ref h1.size), .unset] [(.long q3), (.int (0 : Int32)), (.ref h1.size)])) _
  refine st4 _ ?_
  show Steps p.tables e below (T4.setTop (mkF m 65 #[.val (.long q1), .second, .val (.long q2), .second, .val (.long q3), .second, .val (.long q4), .second, .val (.long q5), .second, .val (.int p6), .val (.int (1 : Int32)), .val (.int (1 : Int32)), .val (.ref h0.size), .val (.ref h1.size), .unset] [])) _
  refine XS.iload X4.here hx rfl (hb hby at_65) rfl ?_
  show Steps p.tables e below (T4.setTop (mkF m 67 #[.val (.long q1), .second, .val (.long q2), .second, .val (.long q3), .second, .val (.long q4), .second, .val (.long q5), .second, .val (.int p6), .val (.int (1 : Int32)), .val (.int (1 : Int32)), .val (.ref h0.size), .val (.ref h1.size), .unset] [(.int (1 : Int32))])) _
  refine XS.iconst X4.here hx rfl (hb hby at_67) ?_
  show Steps p.tables e below (T4.setTop (mkF m 68 #[.val (.long q1), .second, .val (.long q2), .second, .val (.long q3), .second, .val (.long q4), .second, .val (.long q5), .second, .val (.int p6), .val (.int (1 : Int32)), .val (.int (1 : Int32)), .val (.ref h0.size), .val (.ref h1.size), .unset] [(.int (2 : Int32)), (.int (1 : Int32))])) _
  refine XS.icmpYes X4.here hx rfl (pc0 := 68) (pc' := 77) rfl (hb hby at_68) rfl (tlt (by decide)).1 (by decide) (by decide) ?_
  show Steps p.tables e below (T4.setTop (mkF m 77 #[.val (.long q1), .second, .val (.long q2), .second, .val (.long q3), .second, .val (.long q4), .second, .val (.long q5), .second, .val (.int p6), .val (.int (1 : Int32)), .val (.int (1 : Int32)), .val (.ref h0.size), .val (.ref h1.size), .unset] [])) _
  refine XS.iload X4.here hx rfl (hb hby at_77) rfl ?_
  show Steps p.tables e below (T4.setTop (mkF m 79 #[.val (.long q1), .second, .val (.long q2), .second, .val (.long q3), .second, .val (.long q4), .second, .val (.long q5), .second, .val (.int p6), .val (.int (1 : Int32)), .val (.int (1 : Int32)), .val (.ref h0.size), .val (.ref h1.size), .unset] [(.int (1 : Int32))])) _
  refine XS.iconst X4.here hx rfl (hb hby at_79) ?_
  show Steps p.tables e below (T4.setTop (mkF m 80 #[.val (.long q1), .second, .val (.long q2), .second, .val (.long q3), .second, .val (.long q4), .second, .val (.long q5), .second, .val (.int p6), .val (.int (1 : Int32)), .val (.int (1 : Int32)), .val (.ref h0.size), .val (.ref h1.size), .unset] [(.int (3 : Int32)), (.int (1 : Int32))])) _
  refine XS.icmpYes X4.here hx rfl (pc0 := 80) (pc' := 89) rfl (hb hby at_80) rfl (tlt (by decide)).1 (by decide) (by decide) ?_
  exact kt
set_option maxRecDepth 65536 in
set_option maxHeartbeats 40000000 in
theorem fill_1_2 {p : Program} {l : Launch} {e : Env} {s : State} {m : MethodId} {args : Array Value} {below : List Frame} {meth : Method} {c : Code} {T0 : State} {locs : List Loc} {Z : State} {a0 : Array Value} {h0 : Heap} {n0 : Nat} (q1 q2 q3 q4 q5 : Int64) (p6 : Int32)
    (X0 : Stand p l e room_1 s m args below meth c T0 locs 0 0) (hx : p.tables.exec = Jvm.exec) (hZ : Z.Warmed39 s.vm) (hw : ∀ d ∈ tables_1, d.before a0 Z = true) (hby : c.code = code) (hown : s.vm.findClass "com/example/sidetrip/sidetrip/dispatch/BitsIntersectsPinLaw" = some m.cls) (e0 : T0.heap = h0) (Z0 : n0 ≤ h0.size) (N0 : Fr n0 locs) :
    ∃ (T' : State) (h' : Heap) (o1 o2 : Addr) (locs' : List Loc), Stand p l e room_1 s m args below meth c T' locs' 2 5 ∧ T'.heap = h' ∧ Fr n0 locs' ∧ n0 ≤ h'.size ∧ AF Z h' o1 .long 1 (fun j => .long (own_A q1 q2 j)) ∧ AF Z h' o2 .long 2 (fun j => .long (own_B q3 q4 q5 j)) ∧
      ∀ target, Steps p.tables e below (T'.setTop (mkF m 89 #[.val (.long q1), .second, .val (.long q2), .second, .val (.long q3), .second, .val (.long q4), .second, .val (.long q5), .second, .val (.int p6), .val (.int (1 : Int32)), .val (.int (2 : Int32)), .val (.ref o1), .val (.ref o2), .unset] [])) target → Steps p.tables e below (T0.setTop (mkF m 19 #[.val (.long q1), .second, .val (.long q2), .second, .val (.long q3), .second, .val (.long q4), .second, .val (.long q5), .second, .val (.int p6), .val (.int (1 : Int32)), .val (.int (2 : Int32)), .unset, .unset, .unset] [])) target := by
  obtain ⟨T1, h1, k1, X1, e1, E1, A1, st1⟩ := newP X0 hx hZ (hw _ (List.mem_of_getElem? (i := 0) rfl)) e0 (g := (mkF m 21 #[.val (.long q1), .second, .val (.long q2), .second, .val (.long q3), .second, .val (.long q4), .second, .val (.long q5), .second, .val (.int p6), .val (.int (1 : Int32)), .val (.int (2 : Int32)), .unset, .unset, .unset] [(.int (1 : Int32))])) rfl (hb hby at_21) rfl (by decide) (cap := 2) (by decide) (by decide) (by decide) (by decide)
  have V1_1 : AF Z h1 h0.size .long 1 (fun _ => .long 0) := AF.new A1 (by decide)
  obtain ⟨T2, h2, k2, X2, e2, E2, A2, st2⟩ := newP X1 hx hZ (hw _ (List.mem_of_getElem? (i := 0) rfl)) e1 (g := (mkF m 27 #[.val (.long q1), .second, .val (.long q2), .second, .val (.long q3), .second, .val (.long q4), .second, .val (.long q5), .second, .val (.int p6), .val (.int (1 : Int32)), .val (.int (2 : Int32)), .val (.ref h0.size), .unset, .unset] [(.int (2 : Int32))])) rfl (hb hby at_27) rfl (by decide) (cap := 3) (by decide) (by decide) (by decide) (by decide)
  have V2_2 : AF Z h2 h1.size .long 2 (fun _ => .long 0) := AF.new A2 (by decide)
  have V1_2 := V1_1.ext E2
  have ne12 : h0.size ≠ h1.size := Nat.ne_of_lt V1_1.lt
  have g1 : n0 ≤ h0.size := Z0
  have g2 : n0 ≤ h1.size := Nat.le_trans Z0 E1.1
  have Z2 : n0 ≤ h2.size := Nat.le_trans g2 E2.1
  obtain ⟨c3, Ar3, S3, H3⟩ := V1_2
  obtain ⟨T3, h3, X3, e3, W3, st3⟩ := stJ X2 hx hZ e2 Ar3 (j := (0 : Int32)) (by rw [S3]; decide) (g := (mkF m 41 #[.val (.long q1), .second, .val (.long q2), .second, .val (.long q3), .second, .val (.long q4), .second, .val (.long q5), .second, .val (.int p6), .val (.int (1 : Int32)), .val (.int (2 : Int32)), .val (.ref h0.size), .val (.ref h1.size), .unset] [(.long q1), (.int (0 : Int32)), (.ref h0.size)])) rfl rfl (hb hby at_41)
  have N3 := Fr.snoc X3 N0 g1
  have V1_3 := AF.set (⟨c3, Ar3, S3, H3⟩ : AF Z h2 h0.size .long 1 _) W3
  have V2_3 := V2_2.other W3 ne12.symm
  have Z3 : n0 ≤ h3.size := by rw [W3.size]; exact Z2
  obtain ⟨c4, Ar4, S4, H4⟩ := V2_3
  obtain ⟨T4, h4, X4, e4, W4, st4⟩ := stJ X3 hx hZ e3 Ar4 (j := (0 : Int32)) (by rw [S4]; decide) (g := (mkF m 64 #[.val (.long q1), .second, .val (.long q2), .second, .val (.long q3), .second, .val (.long q4), .second, .val (.long q5), .second, .val (.int p6), .val (.int (1 : Int32)), .val (.int (2 : Int32)), .val (.ref h0.size), .val (.ref h1.size), .unset] [(.long q3), (.int (0 : Int32)), (.ref h1.size)])) rfl rfl (hb hby at_64)
  have N4 := Fr.snoc X4 N3 g2
  have V2_4 := AF.set (⟨c4, Ar4, S4, H4⟩ : AF Z h3 h1.size .long 2 _) W4
  have V1_4 := V1_3.other W4 ne12
  have Z4 : n0 ≤ h4.size := by rw [W4.size]; exact Z3
  obtain ⟨c5, Ar5, S5, H5⟩ := V2_4
  obtain ⟨T5, h5, X5, e5, W5, st5⟩ := stJ X4 hx hZ e4 Ar5 (j := (1 : Int32)) (by rw [S5]; decide) (g := (mkF m 76 #[.val (.long q1), .second, .val (.long q2), .second, .val (.long q3), .second, .val (.long q4), .second, .val (.long q5), .second, .val (.int p6), .val (.int (1 : Int32)), .val (.int (2 : Int32)), .val (.ref h0.size), .val (.ref h1.size), .unset] [(.long q4), (.int (1 : Int32)), (.ref h1.size)])) rfl rfl (hb hby at_76)
  have N5 := Fr.snoc X5 N4 g2
  have V2_5 := AF.set (⟨c5, Ar5, S5, H5⟩ : AF Z h4 h1.size .long 2 _) W5
  have V1_5 := V1_4.other W5 ne12
  have Z5 : n0 ≤ h5.size := by rw [W5.size]; exact Z4
  have F1 : AF Z h5 h0.size .long 1 (fun j => .long (own_A q1 q2 j)) := V1_5.congr (fun j hj => by
    match j, hj with
    | 0, _ => rfl)
  have F2 : AF Z h5 h1.size .long 2 (fun j => .long (own_B q3 q4 q5 j)) := V2_5.congr (fun j hj => by
    match j, hj with
    | 0, _ => rfl
    | 1, _ => rfl)
  refine ⟨T5, h5, h0.size, h1.size, _, X5, e5, N5, Z5, F1, F2, fun target kt => ?_⟩
  show Steps p.tables e below (T0.setTop (mkF m 19 #[.val (.long q1), .second, .val (.long q2), .second, .val (.long q3), .second, .val (.long q4), .second, .val (.long q5), .second, .val (.int p6), .val (.int (1 : Int32)), .val (.int (2 : Int32)), .unset, .unset, .unset] [])) _
  refine XS.iload X0.here hx rfl (hb hby at_19) rfl ?_
  show Steps p.tables e below (T0.setTop (mkF m 21 #[.val (.long q1), .second, .val (.long q2), .second, .val (.long q3), .second, .val (.long q4), .second, .val (.long q5), .second, .val (.int p6), .val (.int (1 : Int32)), .val (.int (2 : Int32)), .unset, .unset, .unset] [(.int (1 : Int32))])) _
  refine st1 _ ?_
  show Steps p.tables e below (T1.setTop (mkF m 23 #[.val (.long q1), .second, .val (.long q2), .second, .val (.long q3), .second, .val (.long q4), .second, .val (.long q5), .second, .val (.int p6), .val (.int (1 : Int32)), .val (.int (2 : Int32)), .unset, .unset, .unset] [(.ref h0.size)])) _
  refine XS.astore X1.here hx rfl (hb hby at_23) rfl rfl (l' := #[.val (.long q1), .second, .val (.long q2), .second, .val (.long q3), .second, .val (.long q4), .second, .val (.long q5), .second, .val (.int p6), .val (.int (1 : Int32)), .val (.int (2 : Int32)), .val (.ref h0.size), .unset, .unset]) rfl ?_
  show Steps p.tables e below (T1.setTop (mkF m 25 #[.val (.long q1), .second, .val (.long q2), .second, .val (.long q3), .second, .val (.long q4), .second, .val (.long q5), .second, .val (.int p6), .val (.int (1 : Int32)), .val (.int (2 : Int32)), .val (.ref h0.size), .unset, .unset] [])) _
  refine XS.iload X1.here hx rfl (hb hby at_25) rfl ?_
  show Steps p.tables e below (T1.setTop (mkF m 27 #[.val (.long q1), .second, .val (.long q2), .second, .val (.long q3), .second, .val (.long q4), .second, .val (.long q5), .second, .val (.int p6), .val (.int (1 : Int32)), .val (.int (2 : Int32)), .val (.ref h0.size), .unset, .unset] [(.int (2 : Int32))])) _
  refine st2 _ ?_
  show Steps p.tables e below (T2.setTop (mkF m 29 #[.val (.long q1), .second, .val (.long q2), .second, .val (.long q3), .second, .val (.long q4), .second, .val (.long q5), .second, .val (.int p6), .val (.int (1 : Int32)), .val (.int (2 : Int32)), .val (.ref h0.size), .unset, .unset] [(.ref h1.size)])) _
  refine XS.astore X2.here hx rfl (hb hby at_29) rfl rfl (l' := #[.val (.long q1), .second, .val (.long q2), .second, .val (.long q3), .second, .val (.long q4), .second, .val (.long q5), .second, .val (.int p6), .val (.int (1 : Int32)), .val (.int (2 : Int32)), .val (.ref h0.size), .val (.ref h1.size), .unset]) rfl ?_
  show Steps p.tables e below (T2.setTop (mkF m 31 #[.val (.long q1), .second, .val (.long q2), .second, .val (.long q3), .second, .val (.long q4), .second, .val (.long q5), .second, .val (.int p6), .val (.int (1 : Int32)), .val (.int (2 : Int32)), .val (.ref h0.size), .val (.ref h1.size), .unset] [])) _
  refine XS.iload X2.here hx rfl (hb hby at_31) rfl ?_
  show Steps p.tables e below (T2.setTop (mkF m 33 #[.val (.long q1), .second, .val (.long q2), .second, .val (.long q3), .second, .val (.long q4), .second, .val (.long q5), .second, .val (.int p6), .val (.int (1 : Int32)), .val (.int (2 : Int32)), .val (.ref h0.size), .val (.ref h1.size), .unset] [(.int (1 : Int32))])) _
  refine XS.iconst X2.here hx rfl (hb hby at_33) ?_
  show Steps p.tables e below (T2.setTop (mkF m 34 #[.val (.long q1), .second, .val (.long q2), .second, .val (.long q3), .second, .val (.long q4), .second, .val (.long q5), .second, .val (.int p6), .val (.int (1 : Int32)), .val (.int (2 : Int32)), .val (.ref h0.size), .val (.ref h1.size), .unset] [(.int (1 : Int32)), (.int (1 : Int32))])) _
  refine XS.icmpNo X2.here hx rfl (hb hby at_34) rfl (flt (by decide)).1 ?_
  show Steps p.tables e below (T2.setTop (mkF m 37 #[.val (.long q1), .second, .val (.long q2), .second, .val (.long q3), .second, .val (.long q4), .second, .val (.long q5), .second, .val (.int p6), .val (.int (1 : Int32)), .val (.int (2 : Int32)), .val (.ref h0.size), .val (.ref h1.size), .unset] [])) _
  refine XS.aload X2.here hx rfl (hb hby at_37) rfl rfl ?_
  show Steps p.tables e below (T2.setTop (mkF m 39 #[.val (.long q1), .second, .val (.long q2), .second, .val (.long q3), .second, .val (.long q4), .second, .val (.long q5), .second, .val (.int p6), .val (.int (1 : Int32)), .val (.int (2 : Int32)), .val (.ref h0.size), .val (.ref h1.size), .unset] [(.ref h0.size)])) _
  refine XS.iconst X2.here hx rfl (hb hby at_39) ?_
  show Steps p.tables e below (T2.setTop (mkF m 40 #[.val (.long q1), .second, .val (.long q2), .second, .val (.long q3), .second, .val (.long q4), .second, .val (.long q5), .second, .val (.int p6), .val (.int (1 : Int32)), .val (.int (2 : Int32)), .val (.ref h0.size), .val (.ref h1.size), .unset] [(.int (0 : Int32)), (.ref h0.size)])) _
  refine XS.lloadN X2.here hx rfl (hb hby at_40) rfl ?_
  show Steps p.tables e below (T2.setTop (mkF m 41 #[.val (.long q1), .second, .val (.long q2), .second, .val (.long q3), .second, .val (.long q4), .second, .val (.long q5), .second, .val (.int p6), .val (.int (1 : Int32)), .val (.int (2 : Int32)), .val (.ref h0.size), .val (.ref h1.size), .unset] [(.long q1), (.int (0 : Int32)), (.ref h0.size)])) _
  refine st3 _ ?_
  show Steps p.tables e below (T3.setTop (mkF m 42 #[.val (.long q1), .second, .val (.long q2), .second, .val (.long q3), .second, .val (.long q4), .second, .val (.long q5), .second, .val (.int p6), .val (.int (1 : Int32)), .val (.int (2 : Int32)), .val (.ref h0.size), .val (.ref h1.size), .unset] [])) _
  refine XS.iload X3.here hx rfl (hb hby at_42) rfl ?_
  show Steps p.tables e below (T3.setTop (mkF m 44 #[.val (.long q1), .second, .val (.long q2), .second, .val (.long q3), .second, .val (.long q4), .second, .val (.long q5), .second, .val (.int p6), .val (.int (1 : Int32)), .val (.int (2 : Int32)), .val (.ref h0.size), .val (.ref h1.size), .unset] [(.int (1 : Int32))])) _
  refine XS.iconst X3.here hx rfl (hb hby at_44) ?_
  show Steps p.tables e below (T3.setTop (mkF m 45 #[.val (.long q1), .second, .val (.long q2), .second, .val (.long q3), .second, .val (.long q4), .second, .val (.long q5), .second, .val (.int p6), .val (.int (1 : Int32)), .val (.int (2 : Int32)), .val (.ref h0.size), .val (.ref h1.size), .unset] [(.int (2 : Int32)), (.int (1 : Int32))])) _
  refine XS.icmpYes X3.here hx rfl (pc0 := 45) (pc' := 53) rfl (hb hby at_45) rfl (tlt (by decide)).1 (by decide) (by decide) ?_
  show Steps p.tables e below (T3.setTop (mkF m 53 #[.val (.long q1), .second, .val (.long q2), .second, .val (.long q3), .second, .val (.long q4), .second, .val (.long q5), .second, .val (.int p6), .val (.int (1 : Int32)), .val (.int (2 : Int32)), .val (.ref h0.size), .val (.ref h1.size), .unset] [])) _
  refine XS.iload X3.here hx rfl (hb hby at_53) rfl ?_
  show Steps p.tables e below (T3.setTop (mkF m 55 #[.val (.long q1), .second, .val (.long q2), .second, .val (.long q3), .second, .val (.long q4), .second, .val (.long q5), .second, .val (.int p6), .val (.int (1 : Int32)), .val (.int (2 : Int32)), .val (.ref h0.size), .val (.ref h1.size), .unset] [(.int (2 : Int32))])) _
  refine XS.iconst X3.here hx rfl (hb hby at_55) ?_
  show Steps p.tables e below (T3.setTop (mkF m 56 #[.val (.long q1), .second, .val (.long q2), .second, .val (.long q3), .second, .val (.long q4), .second, .val (.long q5), .second, .val (.int p6), .val (.int (1 : Int32)), .val (.int (2 : Int32)), .val (.ref h0.size), .val (.ref h1.size), .unset] [(.int (1 : Int32)), (.int (2 : Int32))])) _
  refine XS.icmpNo X3.here hx rfl (hb hby at_56) rfl (flt (by decide)).1 ?_
  show Steps p.tables e below (T3.setTop (mkF m 59 #[.val (.long q1), .second, .val (.long q2), .second, .val (.long q3), .second, .val (.long q4), .second, .val (.long q5), .second, .val (.int p6), .val (.int (1 : Int32)), .val (.int (2 : Int32)), .val (.ref h0.size), .val (.ref h1.size), .unset] [])) _
  refine XS.aload X3.here hx rfl (hb hby at_59) rfl rfl ?_
  show Steps p.tables e below (T3.setTop (mkF m 61 #[.val (.long q1), .second, .val (.long q2), .second, .val (.long q3), .second, .val (.long q4), .second, .val (.long q5), .second, .val (.int p6), .val (.int (1 : Int32)), .val (.int (2 : Int32)), .val (.ref h0.size), .val (.ref h1.size), .unset] [(.ref h1.size)])) _
  refine XS.iconst X3.here hx rfl (hb hby at_61) ?_
  show Steps p.tables e below (T3.setTop (mkF m 62 #[.val (.long q1), .second, .val (.long q2), .second, .val (.long q3), .second, .val (.long q4), .second, .val (.long q5), .second, .val (.int p6), .val (.int (1 : Int32)), .val (.int (2 : Int32)), .val (.ref h0.size), .val (.ref h1.size), .unset] [(.int (0 : Int32)), (.ref h1.size)])) _
  refine XS.lload X3.here hx rfl (hb hby at_62) rfl ?_
  show Steps p.tables e below (T3.setTop (mkF m 64 #[.val (.long q1), .second, .val (.long q2), .second, .val (.long q3), .second, .val (.long q4), .second, .val (.long q5), .second, .val (.int p6), .val (.int (1 : Int32)), .val (.int (2 : Int32)), .val (.ref h0.size), .val (.ref h1.size), .unset] [(.long q3), (.int (0 : Int32)), (.ref h1.size)])) _
  refine st4 _ ?_
  show Steps p.tables e below (T4.setTop (mkF m 65 #[.val (.long q1), .second, .val (.long q2), .second, .val (.long q3), .second, .val (.long q4), .second, .val (.long q5), .second, .val (.int p6), .val (.int (1 : Int32)), .val (.int (2 : Int32)), .val (.ref h0.size), .val (.ref h1.size), .unset] [])) _
  refine XS.iload X4.here hx rfl (hb hby at_65) rfl ?_
  show Steps p.tables e below (T4.setTop (mkF m 67 #[.val (.long q1), .second, .val (.long q2), .second, .val (.long q3), .second, .val (.long q4), .second, .val (.long q5), .second, .val (.int p6), .val (.int (1 : Int32)), .val (.int (2 : Int32)), .val (.ref h0.size), .val (.ref h1.size), .unset] [(.int (2 : Int32))])) _
  refine XS.iconst X4.here hx rfl (hb hby at_67) ?_
  show Steps p.tables e below (T4.setTop (mkF m 68 #[.val (.long q1), .second, .val (.long q2), .second, .val (.long q3), .second, .val (.long q4), .second, .val (.long q5), .second, .val (.int p6), .val (.int (1 : Int32)), .val (.int (2 : Int32)), .val (.ref h0.size), .val (.ref h1.size), .unset] [(.int (2 : Int32)), (.int (2 : Int32))])) _
  refine XS.icmpNo X4.here hx rfl (hb hby at_68) rfl (flt (by decide)).1 ?_
  show Steps p.tables e below (T4.setTop (mkF m 71 #[.val (.long q1), .second, .val (.long q2), .second, .val (.long q3), .second, .val (.long q4), .second, .val (.long q5), .second, .val (.int p6), .val (.int (1 : Int32)), .val (.int (2 : Int32)), .val (.ref h0.size), .val (.ref h1.size), .unset] [])) _
  refine XS.aload X4.here hx rfl (hb hby at_71) rfl rfl ?_
  show Steps p.tables e below (T4.setTop (mkF m 73 #[.val (.long q1), .second, .val (.long q2), .second, .val (.long q3), .second, .val (.long q4), .second, .val (.long q5), .second, .val (.int p6), .val (.int (1 : Int32)), .val (.int (2 : Int32)), .val (.ref h0.size), .val (.ref h1.size), .unset] [(.ref h1.size)])) _
  refine XS.iconst X4.here hx rfl (hb hby at_73) ?_
  show Steps p.tables e below (T4.setTop (mkF m 74 #[.val (.long q1), .second, .val (.long q2), .second, .val (.long q3), .second, .val (.long q4), .second, .val (.long q5), .second, .val (.int p6), .val (.int (1 : Int32)), .val (.int (2 : Int32)), .val (.ref h0.size), .val (.ref h1.size), .unset] [(.int (1 : Int32)), (.ref h1.size)])) _
  refine XS.lload X4.here hx rfl (hb hby at_74) rfl ?_
  show Steps p.tables e below (T4.setTop (mkF m 76 #[.val (.long q1), .second, .val (.long q2), .second, .val (.long q3), .second, .val (.long q4), .second, .val (.long q5), .second, .val (.int p6), .val (.int (1 : Int32)), .val (.int (2 : Int32)), .val (.ref h0.size), .val (.ref h1.size), .unset] [(.long q4), (.int (1 : Int32)), (.ref h1.size)])) _
  refine st5 _ ?_
  show Steps p.tables e below (T5.setTop (mkF m 77 #[.val (.long q1), .second, .val (.long q2), .second, .val (.long q3), .second, .val (.long q4), .second, .val (.long q5), .second, .val (.int p6), .val (.int (1 : Int32)), .val (.int (2 : Int32)), .val (.ref h0.size), .val (.ref h1.size), .unset] [])) _
  refine XS.iload X5.here hx rfl (hb hby at_77) rfl ?_
  show Steps p.tables e below (T5.setTop (mkF m 79 #[.val (.long q1), .second, .val (.long q2), .second, .val (.long q3), .second, .val (.long q4), .second, .val (.long q5), .second, .val (.int p6), .val (.int (1 : Int32)), .val (.int (2 : Int32)), .val (.ref h0.size), .val (.ref h1.size), .unset] [(.int (2 : Int32))])) _
  refine XS.iconst X5.here hx rfl (hb hby at_79) ?_
  show Steps p.tables e below (T5.setTop (mkF m 80 #[.val (.long q1), .second, .val (.long q2), .second, .val (.long q3), .second, .val (.long q4), .second, .val (.long q5), .second, .val (.int p6), .val (.int (1 : Int32)), .val (.int (2 : Int32)), .val (.ref h0.size), .val (.ref h1.size), .unset] [(.int (3 : Int32)), (.int (2 : Int32))])) _
  refine XS.icmpYes X5.here hx rfl (pc0 := 80) (pc' := 89) rfl (hb hby at_80) rfl (tlt (by decide)).1 (by decide) (by decide) ?_
  exact kt
set_option maxRecDepth 65536 in
set_option maxHeartbeats 40000000 in
theorem fill_2_2 {p : Program} {l : Launch} {e : Env} {s : State} {m : MethodId} {args : Array Value} {below : List Frame} {meth : Method} {c : Code} {T0 : State} {locs : List Loc} {Z : State} {a0 : Array Value} {h0 : Heap} {n0 : Nat} (q1 q2 q3 q4 q5 : Int64) (p6 : Int32)
    (X0 : Stand p l e room_1 s m args below meth c T0 locs 0 0) (hx : p.tables.exec = Jvm.exec) (hZ : Z.Warmed39 s.vm) (hw : ∀ d ∈ tables_1, d.before a0 Z = true) (hby : c.code = code) (hown : s.vm.findClass "com/example/sidetrip/sidetrip/dispatch/BitsIntersectsPinLaw" = some m.cls) (e0 : T0.heap = h0) (Z0 : n0 ≤ h0.size) (N0 : Fr n0 locs) :
    ∃ (T' : State) (h' : Heap) (o1 o2 : Addr) (locs' : List Loc), Stand p l e room_1 s m args below meth c T' locs' 2 5 ∧ T'.heap = h' ∧ Fr n0 locs' ∧ n0 ≤ h'.size ∧ AF Z h' o1 .long 2 (fun j => .long (own_A q1 q2 j)) ∧ AF Z h' o2 .long 2 (fun j => .long (own_B q3 q4 q5 j)) ∧
      ∀ target, Steps p.tables e below (T'.setTop (mkF m 89 #[.val (.long q1), .second, .val (.long q2), .second, .val (.long q3), .second, .val (.long q4), .second, .val (.long q5), .second, .val (.int p6), .val (.int (2 : Int32)), .val (.int (2 : Int32)), .val (.ref o1), .val (.ref o2), .unset] [])) target → Steps p.tables e below (T0.setTop (mkF m 19 #[.val (.long q1), .second, .val (.long q2), .second, .val (.long q3), .second, .val (.long q4), .second, .val (.long q5), .second, .val (.int p6), .val (.int (2 : Int32)), .val (.int (2 : Int32)), .unset, .unset, .unset] [])) target := by
  obtain ⟨T1, h1, k1, X1, e1, E1, A1, st1⟩ := newP X0 hx hZ (hw _ (List.mem_of_getElem? (i := 0) rfl)) e0 (g := (mkF m 21 #[.val (.long q1), .second, .val (.long q2), .second, .val (.long q3), .second, .val (.long q4), .second, .val (.long q5), .second, .val (.int p6), .val (.int (2 : Int32)), .val (.int (2 : Int32)), .unset, .unset, .unset] [(.int (2 : Int32))])) rfl (hb hby at_21) rfl (by decide) (cap := 2) (by decide) (by decide) (by decide) (by decide)
  have V1_1 : AF Z h1 h0.size .long 2 (fun _ => .long 0) := AF.new A1 (by decide)
  obtain ⟨T2, h2, k2, X2, e2, E2, A2, st2⟩ := newP X1 hx hZ (hw _ (List.mem_of_getElem? (i := 0) rfl)) e1 (g := (mkF m 27 #[.val (.long q1), .second, .val (.long q2), .second, .val (.long q3), .second, .val (.long q4), .second, .val (.long q5), .second, .val (.int p6), .val (.int (2 : Int32)), .val (.int (2 : Int32)), .val (.ref h0.size), .unset, .unset] [(.int (2 : Int32))])) rfl (hb hby at_27) rfl (by decide) (cap := 3) (by decide) (by decide) (by decide) (by decide)
  have V2_2 : AF Z h2 h1.size .long 2 (fun _ => .long 0) := AF.new A2 (by decide)
  have V1_2 := V1_1.ext E2
  have ne12 : h0.size ≠ h1.size := Nat.ne_of_lt V1_1.lt
  have g1 : n0 ≤ h0.size := Z0
  have g2 : n0 ≤ h1.size := Nat.le_trans Z0 E1.1
  have Z2 : n0 ≤ h2.size := Nat.le_trans g2 E2.1
  obtain ⟨c3, Ar3, S3, H3⟩ := V1_2
  obtain ⟨T3, h3, X3, e3, W3, st3⟩ := stJ X2 hx hZ e2 Ar3 (j := (0 : Int32)) (by rw [S3]; decide) (g := (mkF m 41 #[.val (.long q1), .second, .val (.long q2), .second, .val (.long q3), .second, .val (.long q4), .second, .val (.long q5), .second, .val (.int p6), .val (.int (2 : Int32)), .val (.int (2 : Int32)), .val (.ref h0.size), .val (.ref h1.size), .unset] [(.long q1), (.int (0 : Int32)), (.ref h0.size)])) rfl rfl (hb hby at_41)
  have N3 := Fr.snoc X3 N0 g1
  have V1_3 := AF.set (⟨c3, Ar3, S3, H3⟩ : AF Z h2 h0.size .long 2 _) W3
  have V2_3 := V2_2.other W3 ne12.symm
  have Z3 : n0 ≤ h3.size := by rw [W3.size]; exact Z2
  obtain ⟨c4, Ar4, S4, H4⟩ := V1_3
  obtain ⟨T4, h4, X4, e4, W4, st4⟩ := stJ X3 hx hZ e3 Ar4 (j := (1 : Int32)) (by rw [S4]; decide) (g := (mkF m 52 #[.val (.long q1), .second, .val (.long q2), .second, .val (.long q3), .second, .val (.long q4), .second, .val (.long q5), .second, .val (.int p6), .val (.int (2 : Int32)), .val (.int (2 : Int32)), .val (.ref h0.size), .val (.ref h1.size), .unset] [(.long q2), (.int (1 : Int32)), (.ref h0.size)])) rfl rfl (hb hby at_52)
  have N4 := Fr.snoc X4 N3 g1
  have V1_4 := AF.set (⟨c4, Ar4, S4, H4⟩ : AF Z h3 h0.size .long 2 _) W4
  have V2_4 := V2_3.other W4 ne12.symm
  have Z4 : n0 ≤ h4.size := by rw [W4.size]; exact Z3
  obtain ⟨c5, Ar5, S5, H5⟩ := V2_4
  obtain ⟨T5, h5, X5, e5, W5, st5⟩ := stJ X4 hx hZ e4 Ar5 (j := (0 : Int32)) (by rw [S5]; decide) (g := (mkF m 64 #[.val (.long q1), .second, .val (.long q2), .second, .val (.long q3), .second, .val (.long q4), .second, .val (.long q5), .second, .val (.int p6), .val (.int (2 : Int32)), .val (.int (2 : Int32)), .val (.ref h0.size), .val (.ref h1.size), .unset] [(.long q3), (.int (0 : Int32)), (.ref h1.size)])) rfl rfl (hb hby at_64)
  have N5 := Fr.snoc X5 N4 g2
  have V2_5 := AF.set (⟨c5, Ar5, S5, H5⟩ : AF Z h4 h1.size .long 2 _) W5
  have V1_5 := V1_4.other W5 ne12
  have Z5 : n0 ≤ h5.size := by rw [W5.size]; exact Z4
  obtain ⟨c6, Ar6, S6, H6⟩ := V2_5
  obtain ⟨T6, h6, X6, e6, W6, st6⟩ := stJ X5 hx hZ e5 Ar6 (j := (1 : Int32)) (by rw [S6]; decide) (g := (mkF m 76 #[.val (.long q1), .second, .val (.long q2), .second, .val (.long q3), .second, .val (.long q4), .second, .val (.long q5), .second, .val (.int p6), .val (.int (2 : Int32)), .val (.int (2 : Int32)), .val (.ref h0.size), .val (.ref h1.size), .unset] [(.long q4), (.int (1 : Int32)), (.ref h1.size)])) rfl rfl (hb hby at_76)
  have N6 := Fr.snoc X6 N5 g2
  have V2_6 := AF.set (⟨c6, Ar6, S6, H6⟩ : AF Z h5 h1.size .long 2 _) W6
  have V1_6 := V1_5.other W6 ne12
  have Z6 : n0 ≤ h6.size := by rw [W6.size]; exact Z5
  have F1 : AF Z h6 h0.size .long 2 (fun j => .long (own_A q1 q2 j)) := V1_6.congr (fun j hj => by
    match j, hj with
    | 0, _ => rfl
    | 1, _ => rfl)
  have F2 : AF Z h6 h1.size .long 2 (fun j => .long (own_B q3 q4 q5 j)) := V2_6.congr (fun j hj => by
    match j, hj with
    | 0, _ => rfl
    | 1, _ => rfl)
  refine ⟨T6, h6, h0.size, h1.size, _, X6, e6, N6, Z6, F1, F2, fun target kt => ?_⟩
  show Steps p.tables e below (T0.setTop (mkF m 19 #[.val (.long q1), .second, .val (.long q2), .second, .val (.long q3), .second, .val (.long q4), .second, .val (.long q5), .second, .val (.int p6), .val (.int (2 : Int32)), .val (.int (2 : Int32)), .unset, .unset, .unset] [])) _
  refine XS.iload X0.here hx rfl (hb hby at_19) rfl ?_
  show Steps p.tables e below (T0.setTop (mkF m 21 #[.val (.long q1), .second, .val (.long q2), .second, .val (.long q3), .second, .val (.long q4), .second, .val (.long q5), .second, .val (.int p6), .val (.int (2 : Int32)), .val (.int (2 : Int32)), .unset, .unset, .unset] [(.int (2 : Int32))])) _
  refine st1 _ ?_
  show Steps p.tables e below (T1.setTop (mkF m 23 #[.val (.long q1), .second, .val (.long q2), .second, .val (.long q3), .second, .val (.long q4), .second, .val (.long q5), .second, .val (.int p6), .val (.int (2 : Int32)), .val (.int (2 : Int32)), .unset, .unset, .unset] [(.ref h0.size)])) _
  refine XS.astore X1.here hx rfl (hb hby at_23) rfl rfl (l' := #[.val (.long q1), .second, .val (.long q2), .second, .val (.long q3), .second, .val (.long q4), .second, .val (.long q5), .second, .val (.int p6), .val (.int (2 : Int32)), .val (.int (2 : Int32)), .val (.ref h0.size), .unset, .unset]) rfl ?_
  show Steps p.tables e below (T1.setTop (mkF m 25 #[.val (.long q1), .second, .val (.long q2), .second, .val (.long q3), .second, .val (.long q4), .second, .val (.long q5), .second, .val (.int p6), .val (.int (2 : Int32)), .val (.int (2 : Int32)), .val (.ref h0.size), .unset, .unset] [])) _
  refine XS.iload X1.here hx rfl (hb hby at_25) rfl ?_
  show Steps p.tables e below (T1.setTop (mkF m 27 #[.val (.long q1), .second, .val (.long q2), .second, .val (.long q3), .second, .val (.long q4), .second, .val (.long q5), .second, .val (.int p6), .val (.int (2 : Int32)), .val (.int (2 : Int32)), .val (.ref h0.size), .unset, .unset] [(.int (2 : Int32))])) _
  refine st2 _ ?_
  show Steps p.tables e below (T2.setTop (mkF m 29 #[.val (.long q1), .second, .val (.long q2), .second, .val (.long q3), .second, .val (.long q4), .second, .val (.long q5), .second, .val (.int p6), .val (.int (2 : Int32)), .val (.int (2 : Int32)), .val (.ref h0.size), .unset, .unset] [(.ref h1.size)])) _
  refine XS.astore X2.here hx rfl (hb hby at_29) rfl rfl (l' := #[.val (.long q1), .second, .val (.long q2), .second, .val (.long q3), .second, .val (.long q4), .second, .val (.long q5), .second, .val (.int p6), .val (.int (2 : Int32)), .val (.int (2 : Int32)), .val (.ref h0.size), .val (.ref h1.size), .unset]) rfl ?_
  show Steps p.tables e below (T2.setTop (mkF m 31 #[.val (.long q1), .second, .val (.long q2), .second, .val (.long q3), .second, .val (.long q4), .second, .val (.long q5), .second, .val (.int p6), .val (.int (2 : Int32)), .val (.int (2 : Int32)), .val (.ref h0.size), .val (.ref h1.size), .unset] [])) _
  refine XS.iload X2.here hx rfl (hb hby at_31) rfl ?_
  show Steps p.tables e below (T2.setTop (mkF m 33 #[.val (.long q1), .second, .val (.long q2), .second, .val (.long q3), .second, .val (.long q4), .second, .val (.long q5), .second, .val (.int p6), .val (.int (2 : Int32)), .val (.int (2 : Int32)), .val (.ref h0.size), .val (.ref h1.size), .unset] [(.int (2 : Int32))])) _
  refine XS.iconst X2.here hx rfl (hb hby at_33) ?_
  show Steps p.tables e below (T2.setTop (mkF m 34 #[.val (.long q1), .second, .val (.long q2), .second, .val (.long q3), .second, .val (.long q4), .second, .val (.long q5), .second, .val (.int p6), .val (.int (2 : Int32)), .val (.int (2 : Int32)), .val (.ref h0.size), .val (.ref h1.size), .unset] [(.int (1 : Int32)), (.int (2 : Int32))])) _
  refine XS.icmpNo X2.here hx rfl (hb hby at_34) rfl (flt (by decide)).1 ?_
  show Steps p.tables e below (T2.setTop (mkF m 37 #[.val (.long q1), .second, .val (.long q2), .second, .val (.long q3), .second, .val (.long q4), .second, .val (.long q5), .second, .val (.int p6), .val (.int (2 : Int32)), .val (.int (2 : Int32)), .val (.ref h0.size), .val (.ref h1.size), .unset] [])) _
  refine XS.aload X2.here hx rfl (hb hby at_37) rfl rfl ?_
  show Steps p.tables e below (T2.setTop (mkF m 39 #[.val (.long q1), .second, .val (.long q2), .second, .val (.long q3), .second, .val (.long q4), .second, .val (.long q5), .second, .val (.int p6), .val (.int (2 : Int32)), .val (.int (2 : Int32)), .val (.ref h0.size), .val (.ref h1.size), .unset] [(.ref h0.size)])) _
  refine XS.iconst X2.here hx rfl (hb hby at_39) ?_
  show Steps p.tables e below (T2.setTop (mkF m 40 #[.val (.long q1), .second, .val (.long q2), .second, .val (.long q3), .second, .val (.long q4), .second, .val (.long q5), .second, .val (.int p6), .val (.int (2 : Int32)), .val (.int (2 : Int32)), .val (.ref h0.size), .val (.ref h1.size), .unset] [(.int (0 : Int32)), (.ref h0.size)])) _
  refine XS.lloadN X2.here hx rfl (hb hby at_40) rfl ?_
  show Steps p.tables e below (T2.setTop (mkF m 41 #[.val (.long q1), .second, .val (.long q2), .second, .val (.long q3), .second, .val (.long q4), .second, .val (.long q5), .second, .val (.int p6), .val (.int (2 : Int32)), .val (.int (2 : Int32)), .val (.ref h0.size), .val (.ref h1.size), .unset] [(.long q1), (.int (0 : Int32)), (.ref h0.size)])) _
  refine st3 _ ?_
  show Steps p.tables e below (T3.setTop (mkF m 42 #[.val (.long q1), .second, .val (.long q2), .second, .val (.long q3), .second, .val (.long q4), .second, .val (.long q5), .second, .val (.int p6), .val (.int (2 : Int32)), .val (.int (2 : Int32)), .val (.ref h0.size), .val (.ref h1.size), .unset] [])) _
  refine XS.iload X3.here hx rfl (hb hby at_42) rfl ?_
  show Steps p.tables e below (T3.setTop (mkF m 44 #[.val (.long q1), .second, .val (.long q2), .second, .val (.long q3), .second, .val (.long q4), .second, .val (.long q5), .second, .val (.int p6), .val (.int (2 : Int32)), .val (.int (2 : Int32)), .val (.ref h0.size), .val (.ref h1.size), .unset] [(.int (2 : Int32))])) _
  refine XS.iconst X3.here hx rfl (hb hby at_44) ?_
  show Steps p.tables e below (T3.setTop (mkF m 45 #[.val (.long q1), .second, .val (.long q2), .second, .val (.long q3), .second, .val (.long q4), .second, .val (.long q5), .second, .val (.int p6), .val (.int (2 : Int32)), .val (.int (2 : Int32)), .val (.ref h0.size), .val (.ref h1.size), .unset] [(.int (2 : Int32)), (.int (2 : Int32))])) _
  refine XS.icmpNo X3.here hx rfl (hb hby at_45) rfl (flt (by decide)).1 ?_
  show Steps p.tables e below (T3.setTop (mkF m 48 #[.val (.long q1), .second, .val (.long q2), .second, .val (.long q3), .second, .val (.long q4), .second, .val (.long q5), .second, .val (.int p6), .val (.int (2 : Int32)), .val (.int (2 : Int32)), .val (.ref h0.size), .val (.ref h1.size), .unset] [])) _
  refine XS.aload X3.here hx rfl (hb hby at_48) rfl rfl ?_
  show Steps p.tables e below (T3.setTop (mkF m 50 #[.val (.long q1), .second, .val (.long q2), .second, .val (.long q3), .second, .val (.long q4), .second, .val (.long q5), .second, .val (.int p6), .val (.int (2 : Int32)), .val (.int (2 : Int32)), .val (.ref h0.size), .val (.ref h1.size), .unset] [(.ref h0.size)])) _
  refine XS.iconst X3.here hx rfl (hb hby at_50) ?_
  show Steps p.tables e below (T3.setTop (mkF m 51 #[.val (.long q1), .second, .val (.long q2), .second, .val (.long q3), .second, .val (.long q4), .second, .val (.long q5), .second, .val (.int p6), .val (.int (2 : Int32)), .val (.int (2 : Int32)), .val (.ref h0.size), .val (.ref h1.size), .unset] [(.int (1 : Int32)), (.ref h0.size)])) _
  refine XS.lloadN X3.here hx rfl (hb hby at_51) rfl ?_
  show Steps p.tables e below (T3.setTop (mkF m 52 #[.val (.long q1), .second, .val (.long q2), .second, .val (.long q3), .second, .val (.long q4), .second, .val (.long q5), .second, .val (.int p6), .val (.int (2 : Int32)), .val (.int (2 : Int32)), .val (.ref h0.size), .val (.ref h1.size), .unset] [(.long q2), (.int (1 : Int32)), (.ref h0.size)])) _
  refine st4 _ ?_
  show Steps p.tables e below (T4.setTop (mkF m 53 #[.val (.long q1), .second, .val (.long q2), .second, .val (.long q3), .second, .val (.long q4), .second, .val (.long q5), .second, .val (.int p6), .val (.int (2 : Int32)), .val (.int (2 : Int32)), .val (.ref h0.size), .val (.ref h1.size), .unset] [])) _
  refine XS.iload X4.here hx rfl (hb hby at_53) rfl ?_
  show Steps p.tables e below (T4.setTop (mkF m 55 #[.val (.long q1), .second, .val (.long q2), .second, .val (.long q3), .second, .val (.long q4), .second, .val (.long q5), .second, .val (.int p6), .val (.int (2 : Int32)), .val (.int (2 : Int32)), .val (.ref h0.size), .val (.ref h1.size), .unset] [(.int (2 : Int32))])) _
  refine XS.iconst X4.here hx rfl (hb hby at_55) ?_
  show Steps p.tables e below (T4.setTop (mkF m 56 #[.val (.long q1), .second, .val (.long q2), .second, .val (.long q3), .second, .val (.long q4), .second, .val (.long q5), .second, .val (.int p6), .val (.int (2 : Int32)), .val (.int (2 : Int32)), .val (.ref h0.size), .val (.ref h1.size), .unset] [(.int (1 : Int32)), (.int (2 : Int32))])) _
  refine XS.icmpNo X4.here hx rfl (hb hby at_56) rfl (flt (by decide)).1 ?_
  show Steps p.tables e below (T4.setTop (mkF m 59 #[.val (.long q1), .second, .val (.long q2), .second, .val (.long q3), .second, .val (.long q4), .second, .val (.long q5), .second, .val (.int p6), .val (.int (2 : Int32)), .val (.int (2 : Int32)), .val (.ref h0.size), .val (.ref h1.size), .unset] [])) _
  refine XS.aload X4.here hx rfl (hb hby at_59) rfl rfl ?_
  show Steps p.tables e below (T4.setTop (mkF m 61 #[.val (.long q1), .second, .val (.long q2), .second, .val (.long q3), .second, .val (.long q4), .second, .val (.long q5), .second, .val (.int p6), .val (.int (2 : Int32)), .val (.int (2 : Int32)), .val (.ref h0.size), .val (.ref h1.size), .unset] [(.ref h1.size)])) _
  refine XS.iconst X4.here hx rfl (hb hby at_61) ?_
  show Steps p.tables e below (T4.setTop (mkF m 62 #[.val (.long q1), .second, .val (.long q2), .second, .val (.long q3), .second, .val (.long q4), .second, .val (.long q5), .second, .val (.int p6), .val (.int (2 : Int32)), .val (.int (2 : Int32)), .val (.ref h0.size), .val (.ref h1.size), .unset] [(.int (0 : Int32)), (.ref h1.size)])) _
  refine XS.lload X4.here hx rfl (hb hby at_62) rfl ?_
  show Steps p.tables e below (T4.setTop (mkF m 64 #[.val (.long q1), .second, .val (.long q2), .second, .val (.long q3), .second, .val (.long q4), .second, .val (.long q5), .second, .val (.int p6), .val (.int (2 : Int32)), .val (.int (2 : Int32)), .val (.ref h0.size), .val (.ref h1.size), .unset] [(.long q3), (.int (0 : Int32)), (.ref h1.size)])) _
  refine st5 _ ?_
  show Steps p.tables e below (T5.setTop (mkF m 65 #[.val (.long q1), .second, .val (.long q2), .second, .val (.long q3), .second, .val (.long q4), .second, .val (.long q5), .second, .val (.int p6), .val (.int (2 : Int32)), .val (.int (2 : Int32)), .val (.ref h0.size), .val (.ref h1.size), .unset] [])) _
  refine XS.iload X5.here hx rfl (hb hby at_65) rfl ?_
  show Steps p.tables e below (T5.setTop (mkF m 67 #[.val (.long q1), .second, .val (.long q2), .second, .val (.long q3), .second, .val (.long q4), .second, .val (.long q5), .second, .val (.int p6), .val (.int (2 : Int32)), .val (.int (2 : Int32)), .val (.ref h0.size), .val (.ref h1.size), .unset] [(.int (2 : Int32))])) _
  refine XS.iconst X5.here hx rfl (hb hby at_67) ?_
  show Steps p.tables e below (T5.setTop (mkF m 68 #[.val (.long q1), .second, .val (.long q2), .second, .val (.long q3), .second, .val (.long q4), .second, .val (.long q5), .second, .val (.int p6), .val (.int (2 : Int32)), .val (.int (2 : Int32)), .val (.ref h0.size), .val (.ref h1.size), .unset] [(.int (2 : Int32)), (.int (2 : Int32))])) _
  refine XS.icmpNo X5.here hx rfl (hb hby at_68) rfl (flt (by decide)).1 ?_
  show Steps p.tables e below (T5.setTop (mkF m 71 #[.val (.long q1), .second, .val (.long q2), .second, .val (.long q3), .second, .val (.long q4), .second, .val (.long q5), .second, .val (.int p6), .val (.int (2 : Int32)), .val (.int (2 : Int32)), .val (.ref h0.size), .val (.ref h1.size), .unset] [])) _
  refine XS.aload X5.here hx rfl (hb hby at_71) rfl rfl ?_
  show Steps p.tables e below (T5.setTop (mkF m 73 #[.val (.long q1), .second, .val (.long q2), .second, .val (.long q3), .second, .val (.long q4), .second, .val (.long q5), .second, .val (.int p6), .val (.int (2 : Int32)), .val (.int (2 : Int32)), .val (.ref h0.size), .val (.ref h1.size), .unset] [(.ref h1.size)])) _
  refine XS.iconst X5.here hx rfl (hb hby at_73) ?_
  show Steps p.tables e below (T5.setTop (mkF m 74 #[.val (.long q1), .second, .val (.long q2), .second, .val (.long q3), .second, .val (.long q4), .second, .val (.long q5), .second, .val (.int p6), .val (.int (2 : Int32)), .val (.int (2 : Int32)), .val (.ref h0.size), .val (.ref h1.size), .unset] [(.int (1 : Int32)), (.ref h1.size)])) _
  refine XS.lload X5.here hx rfl (hb hby at_74) rfl ?_
  show Steps p.tables e below (T5.setTop (mkF m 76 #[.val (.long q1), .second, .val (.long q2), .second, .val (.long q3), .second, .val (.long q4), .second, .val (.long q5), .second, .val (.int p6), .val (.int (2 : Int32)), .val (.int (2 : Int32)), .val (.ref h0.size), .val (.ref h1.size), .unset] [(.long q4), (.int (1 : Int32)), (.ref h1.size)])) _
  refine st6 _ ?_
  show Steps p.tables e below (T6.setTop (mkF m 77 #[.val (.long q1), .second, .val (.long q2), .second, .val (.long q3), .second, .val (.long q4), .second, .val (.long q5), .second, .val (.int p6), .val (.int (2 : Int32)), .val (.int (2 : Int32)), .val (.ref h0.size), .val (.ref h1.size), .unset] [])) _
  refine XS.iload X6.here hx rfl (hb hby at_77) rfl ?_
  show Steps p.tables e below (T6.setTop (mkF m 79 #[.val (.long q1), .second, .val (.long q2), .second, .val (.long q3), .second, .val (.long q4), .second, .val (.long q5), .second, .val (.int p6), .val (.int (2 : Int32)), .val (.int (2 : Int32)), .val (.ref h0.size), .val (.ref h1.size), .unset] [(.int (2 : Int32))])) _
  refine XS.iconst X6.here hx rfl (hb hby at_79) ?_
  show Steps p.tables e below (T6.setTop (mkF m 80 #[.val (.long q1), .second, .val (.long q2), .second, .val (.long q3), .second, .val (.long q4), .second, .val (.long q5), .second, .val (.int p6), .val (.int (2 : Int32)), .val (.int (2 : Int32)), .val (.ref h0.size), .val (.ref h1.size), .unset] [(.int (3 : Int32)), (.int (2 : Int32))])) _
  refine XS.icmpYes X6.here hx rfl (pc0 := 80) (pc' := 89) rfl (hb hby at_80) rfl (tlt (by decide)).1 (by decide) (by decide) ?_
  exact kt
set_option maxRecDepth 65536 in
set_option maxHeartbeats 40000000 in
theorem fill_2_3 {p : Program} {l : Launch} {e : Env} {s : State} {m : MethodId} {args : Array Value} {below : List Frame} {meth : Method} {c : Code} {T0 : State} {locs : List Loc} {Z : State} {a0 : Array Value} {h0 : Heap} {n0 : Nat} (q1 q2 q3 q4 q5 : Int64) (p6 : Int32)
    (X0 : Stand p l e room_1 s m args below meth c T0 locs 0 0) (hx : p.tables.exec = Jvm.exec) (hZ : Z.Warmed39 s.vm) (hw : ∀ d ∈ tables_1, d.before a0 Z = true) (hby : c.code = code) (hown : s.vm.findClass "com/example/sidetrip/sidetrip/dispatch/BitsIntersectsPinLaw" = some m.cls) (e0 : T0.heap = h0) (Z0 : n0 ≤ h0.size) (N0 : Fr n0 locs) :
    ∃ (T' : State) (h' : Heap) (o1 o2 : Addr) (locs' : List Loc), Stand p l e room_1 s m args below meth c T' locs' 2 5 ∧ T'.heap = h' ∧ Fr n0 locs' ∧ n0 ≤ h'.size ∧ AF Z h' o1 .long 2 (fun j => .long (own_A q1 q2 j)) ∧ AF Z h' o2 .long 3 (fun j => .long (own_B q3 q4 q5 j)) ∧
      ∀ target, Steps p.tables e below (T'.setTop (mkF m 89 #[.val (.long q1), .second, .val (.long q2), .second, .val (.long q3), .second, .val (.long q4), .second, .val (.long q5), .second, .val (.int p6), .val (.int (2 : Int32)), .val (.int (3 : Int32)), .val (.ref o1), .val (.ref o2), .unset] [])) target → Steps p.tables e below (T0.setTop (mkF m 19 #[.val (.long q1), .second, .val (.long q2), .second, .val (.long q3), .second, .val (.long q4), .second, .val (.long q5), .second, .val (.int p6), .val (.int (2 : Int32)), .val (.int (3 : Int32)), .unset, .unset, .unset] [])) target := by
  obtain ⟨T1, h1, k1, X1, e1, E1, A1, st1⟩ := newP X0 hx hZ (hw _ (List.mem_of_getElem? (i := 0) rfl)) e0 (g := (mkF m 21 #[.val (.long q1), .second, .val (.long q2), .second, .val (.long q3), .second, .val (.long q4), .second, .val (.long q5), .second, .val (.int p6), .val (.int (2 : Int32)), .val (.int (3 : Int32)), .unset, .unset, .unset] [(.int (2 : Int32))])) rfl (hb hby at_21) rfl (by decide) (cap := 2) (by decide) (by decide) (by decide) (by decide)
  have V1_1 : AF Z h1 h0.size .long 2 (fun _ => .long 0) := AF.new A1 (by decide)
  obtain ⟨T2, h2, k2, X2, e2, E2, A2, st2⟩ := newP X1 hx hZ (hw _ (List.mem_of_getElem? (i := 0) rfl)) e1 (g := (mkF m 27 #[.val (.long q1), .second, .val (.long q2), .second, .val (.long q3), .second, .val (.long q4), .second, .val (.long q5), .second, .val (.int p6), .val (.int (2 : Int32)), .val (.int (3 : Int32)), .val (.ref h0.size), .unset, .unset] [(.int (3 : Int32))])) rfl (hb hby at_27) rfl (by decide) (cap := 3) (by decide) (by decide) (by decide) (by decide)
  have V2_2 : AF Z h2 h1.size .long 3 (fun _ => .long 0) := AF.new A2 (by decide)
  have V1_2 := V1_1.ext E2
  have ne12 : h0.size ≠ h1.size := Nat.ne_of_lt V1_1.lt
  have g1 : n0 ≤ h0.size := Z0
  have g2 : n0 ≤ h1.size := Nat.le_trans Z0 E1.1
  have Z2 : n0 ≤ h2.size := Nat.le_trans g2 E2.1
  obtain ⟨c3, Ar3, S3, H3⟩ := V1_2
  obtain ⟨T3, h3, X3, e3, W3, st3⟩ := stJ X2 hx hZ e2 Ar3 (j := (0 : Int32)) (by rw [S3]; decide) (g := (mkF m 41 #[.val (.long q1), .second, .val (.long q2), .second, .val (.long q3), .second, .val (.long q4), .second, .val (.long q5), .second, .val (.int p6), .val (.int (2 : Int32)), .val (.int (3 : Int32)), .val (.ref h0.size), .val (.ref h1.size), .unset] [(.long q1), (.int (0 : Int32)), (.ref h0.size)])) rfl rfl (hb hby at_41)
  have N3 := Fr.snoc X3 N0 g1
  have V1_3 := AF.set (⟨c3, Ar3, S3, H3⟩ : AF Z h2 h0.size .long 2 _) W3
  have V2_3 := V2_2.other W3 ne12.symm
  have Z3 : n0 ≤ h3.size := by rw [W3.size]; exact Z2
  obtain ⟨c4, Ar4, S4, H4⟩ := V1_3
  obtain ⟨T4, h4, X4, e4, W4, st4⟩ := stJ X3 hx hZ e3 Ar4 (j := (1 : Int32)) (by rw [S4]; decide) (g := (mkF m 52 #[.val (.long q1), .second, .val (.long q2), .second, .val (.long q3), .second, .val (.long q4), .second, .val (.long q5), .second, .val (.int p6), .val (.int (2 : Int32)), .val (.int (3 : Int32)), .val (.ref h0.size), .val (.ref h1.size), .unset] [(.long q2), (.int (1 : Int32)), (.ref h0.size)])) rfl rfl (hb hby at_52)
  have N4 := Fr.snoc X4 N3 g1
  have V1_4 := AF.set (⟨c4, Ar4, S4, H4⟩ : AF Z h3 h0.size .long 2 _) W4
  have V2_4 := V2_3.other W4 ne12.symm
  have Z4 : n0 ≤ h4.size := by rw [W4.size]; exact Z3
  obtain ⟨c5, Ar5, S5, H5⟩ := V2_4
  obtain ⟨T5, h5, X5, e5, W5, st5⟩ := stJ X4 hx hZ e4 Ar5 (j := (0 : Int32)) (by rw [S5]; decide) (g := (mkF m 64 #[.val (.long q1), .second, .val (.long q2), .second, .val (.long q3), .second, .val (.long q4), .second, .val (.long q5), .second, .val (.int p6), .val (.int (2 : Int32)), .val (.int (3 : Int32)), .val (.ref h0.size), .val (.ref h1.size), .unset] [(.long q3), (.int (0 : Int32)), (.ref h1.size)])) rfl rfl (hb hby at_64)
  have N5 := Fr.snoc X5 N4 g2
  have V2_5 := AF.set (⟨c5, Ar5, S5, H5⟩ : AF Z h4 h1.size .long 3 _) W5
  have V1_5 := V1_4.other W5 ne12
  have Z5 : n0 ≤ h5.size := by rw [W5.size]; exact Z4
  obtain ⟨c6, Ar6, S6, H6⟩ := V2_5
  obtain ⟨T6, h6, X6, e6, W6, st6⟩ := stJ X5 hx hZ e5 Ar6 (j := (1 : Int32)) (by rw [S6]; decide) (g := (mkF m 76 #[.val (.long q1), .second, .val (.long q2), .second, .val (.long q3), .second, .val (.long q4), .second, .val (.long q5), .second, .val (.int p6), .val (.int (2 : Int32)), .val (.int (3 : Int32)), .val (.ref h0.size), .val (.ref h1.size), .unset] [(.long q4), (.int (1 : Int32)), (.ref h1.size)])) rfl rfl (hb hby at_76)
  have N6 := Fr.snoc X6 N5 g2
  have V2_6 := AF.set (⟨c6, Ar6, S6, H6⟩ : AF Z h5 h1.size .long 3 _) W6
  have V1_6 := V1_5.other W6 ne12
  have Z6 : n0 ≤ h6.size := by rw [W6.size]; exact Z5
  obtain ⟨c7, Ar7, S7, H7⟩ := V2_6
  obtain ⟨T7, h7, X7, e7, W7, st7⟩ := stJ X6 hx hZ e6 Ar7 (j := (2 : Int32)) (by rw [S7]; decide) (g := (mkF m 88 #[.val (.long q1), .second, .val (.long q2), .second, .val (.long q3), .second, .val (.long q4), .second, .val (.long q5), .second, .val (.int p6), .val (.int (2 : Int32)), .val (.int (3 : Int32)), .val (.ref h0.size), .val (.ref h1.size), .unset] [(.long q5), (.int (2 : Int32)), (.ref h1.size)])) rfl rfl (hb hby at_88)
  have N7 := Fr.snoc X7 N6 g2
  have V2_7 := AF.set (⟨c7, Ar7, S7, H7⟩ : AF Z h6 h1.size .long 3 _) W7
  have V1_7 := V1_6.other W7 ne12
  have Z7 : n0 ≤ h7.size := by rw [W7.size]; exact Z6
  have F1 : AF Z h7 h0.size .long 2 (fun j => .long (own_A q1 q2 j)) := V1_7.congr (fun j hj => by
    match j, hj with
    | 0, _ => rfl
    | 1, _ => rfl)
  have F2 : AF Z h7 h1.size .long 3 (fun j => .long (own_B q3 q4 q5 j)) := V2_7.congr (fun j hj => by
    match j, hj with
    | 0, _ => rfl
    | 1, _ => rfl
    | 2, _ => rfl)
  refine ⟨T7, h7, h0.size, h1.size, _, X7, e7, N7, Z7, F1, F2, fun target kt => ?_⟩
  show Steps p.tables e below (T0.setTop (mkF m 19 #[.val (.long q1), .second, .val (.long q2), .second, .val (.long q3), .second, .val (.long q4), .second, .val (.long q5), .second, .val (.int p6), .val (.int (2 : Int32)), .val (.int (3 : Int32)), .unset, .unset, .unset] [])) _
  refine XS.iload X0.here hx rfl (hb hby at_19) rfl ?_
  show Steps p.tables e below (T0.setTop (mkF m 21 #[.val (.long q1), .second, .val (.long q2), .second, .val (.long q3), .second, .val (.long q4), .second, .val (.long q5), .second, .val (.int p6), .val (.int (2 : Int32)), .val (.int (3 : Int32)), .unset, .unset, .unset] [(.int (2 : Int32))])) _
  refine st1 _ ?_
  show Steps p.tables e below (T1.setTop (mkF m 23 #[.val (.long q1), .second, .val (.long q2), .second, .val (.long q3), .second, .val (.long q4), .second, .val (.long q5), .second, .val (.int p6), .val (.int (2 : Int32)), .val (.int (3 : Int32)), .unset, .unset, .unset] [(.ref h0.size)])) _
  refine XS.astore X1.here hx rfl (hb hby at_23) rfl rfl (l' := #[.val (.long q1), .second, .val (.long q2), .second, .val (.long q3), .second, .val (.long q4), .second, .val (.long q5), .second, .val (.int p6), .val (.int (2 : Int32)), .val (.int (3 : Int32)), .val (.ref h0.size), .unset, .unset]) rfl ?_
  show Steps p.tables e below (T1.setTop (mkF m 25 #[.val (.long q1), .second, .val (.long q2), .second, .val (.long q3), .second, .val (.long q4), .second, .val (.long q5), .second, .val (.int p6), .val (.int (2 : Int32)), .val (.int (3 : Int32)), .val (.ref h0.size), .unset, .unset] [])) _
  refine XS.iload X1.here hx rfl (hb hby at_25) rfl ?_
  show Steps p.tables e below (T1.setTop (mkF m 27 #[.val (.long q1), .second, .val (.long q2), .second, .val (.long q3), .second, .val (.long q4), .second, .val (.long q5), .second, .val (.int p6), .val (.int (2 : Int32)), .val (.int (3 : Int32)), .val (.ref h0.size), .unset, .unset] [(.int (3 : Int32))])) _
  refine st2 _ ?_
  show Steps p.tables e below (T2.setTop (mkF m 29 #[.val (.long q1), .second, .val (.long q2), .second, .val (.long q3), .second, .val (.long q4), .second, .val (.long q5), .second, .val (.int p6), .val (.int (2 : Int32)), .val (.int (3 : Int32)), .val (.ref h0.size), .unset, .unset] [(.ref h1.size)])) _
  refine XS.astore X2.here hx rfl (hb hby at_29) rfl rfl (l' := #[.val (.long q1), .second, .val (.long q2), .second, .val (.long q3), .second, .val (.long q4), .second, .val (.long q5), .second, .val (.int p6), .val (.int (2 : Int32)), .val (.int (3 : Int32)), .val (.ref h0.size), .val (.ref h1.size), .unset]) rfl ?_
  show Steps p.tables e below (T2.setTop (mkF m 31 #[.val (.long q1), .second, .val (.long q2), .second, .val (.long q3), .second, .val (.long q4), .second, .val (.long q5), .second, .val (.int p6), .val (.int (2 : Int32)), .val (.int (3 : Int32)), .val (.ref h0.size), .val (.ref h1.size), .unset] [])) _
  refine XS.iload X2.here hx rfl (hb hby at_31) rfl ?_
  show Steps p.tables e below (T2.setTop (mkF m 33 #[.val (.long q1), .second, .val (.long q2), .second, .val (.long q3), .second, .val (.long q4), .second, .val (.long q5), .second, .val (.int p6), .val (.int (2 : Int32)), .val (.int (3 : Int32)), .val (.ref h0.size), .val (.ref h1.size), .unset] [(.int (2 : Int32))])) _
  refine XS.iconst X2.here hx rfl (hb hby at_33) ?_
  show Steps p.tables e below (T2.setTop (mkF m 34 #[.val (.long q1), .second, .val (.long q2), .second, .val (.long q3), .second, .val (.long q4), .second, .val (.long q5), .second, .val (.int p6), .val (.int (2 : Int32)), .val (.int (3 : Int32)), .val (.ref h0.size), .val (.ref h1.size), .unset] [(.int (1 : Int32)), (.int (2 : Int32))])) _
  refine XS.icmpNo X2.here hx rfl (hb hby at_34) rfl (flt (by decide)).1 ?_
  show Steps p.tables e below (T2.setTop (mkF m 37 #[.val (.long q1), .second, .val (.long q2), .second, .val (.long q3), .second, .val (.long q4), .second, .val (.long q5), .second, .val (.int p6), .val (.int (2 : Int32)), .val (.int (3 : Int32)), .val (.ref h0.size), .val (.ref h1.size), .unset] [])) _
  refine XS.aload X2.here hx rfl (hb hby at_37) rfl rfl ?_
  show Steps p.tables e below (T2.setTop (mkF m 39 #[.val (.long q1), .second, .val (.long q2), .second, .val (.long q3), .second, .val (.long q4), .second, .val (.long q5), .second, .val (.int p6), .val (.int (2 : Int32)), .val (.int (3 : Int32)), .val (.ref h0.size), .val (.ref h1.size), .unset] [(.ref h0.size)])) _
  refine XS.iconst X2.here hx rfl (hb hby at_39) ?_
  show Steps p.tables e below (T2.setTop (mkF m 40 #[.val (.long q1), .second, .val (.long q2), .second, .val (.long q3), .second, .val (.long q4), .second, .val (.long q5), .second, .val (.int p6), .val (.int (2 : Int32)), .val (.int (3 : Int32)), .val (.ref h0.size), .val (.ref h1.size), .unset] [(.int (0 : Int32)), (.ref h0.size)])) _
  refine XS.lloadN X2.here hx rfl (hb hby at_40) rfl ?_
  show Steps p.tables e below (T2.setTop (mkF m 41 #[.val (.long q1), .second, .val (.long q2), .second, .val (.long q3), .second, .val (.long q4), .second, .val (.long q5), .second, .val (.int p6), .val (.int (2 : Int32)), .val (.int (3 : Int32)), .val (.ref h0.size), .val (.ref h1.size), .unset] [(.long q1), (.int (0 : Int32)), (.ref h0.size)])) _
  refine st3 _ ?_
  show Steps p.tables e below (T3.setTop (mkF m 42 #[.val (.long q1), .second, .val (.long q2), .second, .val (.long q3), .second, .val (.long q4), .second, .val (.long q5), .second, .val (.int p6), .val (.int (2 : Int32)), .val (.int (3 : Int32)), .val (.ref h0.size), .val (.ref h1.size), .unset] [])) _
  refine XS.iload X3.here hx rfl (hb hby at_42) rfl ?_
  show Steps p.tables e below (T3.setTop (mkF m 44 #[.val (.long q1), .second, .val (.long q2), .second, .val (.long q3), .second, .val (.long q4), .second, .val (.long q5), .second, .val (.int p6), .val (.int (2 : Int32)), .val (.int (3 : Int32)), .val (.ref h0.size), .val (.ref h1.size), .unset] [(.int (2 : Int32))])) _
  refine XS.iconst X3.here hx rfl (hb hby at_44) ?_
  show Steps p.tables e below (T3.setTop (mkF m 45 #[.val (.long q1), .second, .val (.long q2), .second, .val (.long q3), .second, .val (.long q4), .second, .val (.long q5), .second, .val (.int p6), .val (.int (2 : Int32)), .val (.int (3 : Int32)), .val (.ref h0.size), .val (.ref h1.size), .unset] [(.int (2 : Int32)), (.int (2 : Int32))])) _
  refine XS.icmpNo X3.here hx rfl (hb hby at_45) rfl (flt (by decide)).1 ?_
  show Steps p.tables e below (T3.setTop (mkF m 48 #[.val (.long q1), .second, .val (.long q2), .second, .val (.long q3), .second, .val (.long q4), .second, .val (.long q5), .second, .val (.int p6), .val (.int (2 : Int32)), .val (.int (3 : Int32)), .val (.ref h0.size), .val (.ref h1.size), .unset] [])) _
  refine XS.aload X3.here hx rfl (hb hby at_48) rfl rfl ?_
  show Steps p.tables e below (T3.setTop (mkF m 50 #[.val (.long q1), .second, .val (.long q2), .second, .val (.long q3), .second, .val (.long q4), .second, .val (.long q5), .second, .val (.int p6), .val (.int (2 : Int32)), .val (.int (3 : Int32)), .val (.ref h0.size), .val (.ref h1.size), .unset] [(.ref h0.size)])) _
  refine XS.iconst X3.here hx rfl (hb hby at_50) ?_
  show Steps p.tables e below (T3.setTop (mkF m 51 #[.val (.long q1), .second, .val (.long q2), .second, .val (.long q3), .second, .val (.long q4), .second, .val (.long q5), .second, .val (.int p6), .val (.int (2 : Int32)), .val (.int (3 : Int32)), .val (.ref h0.size), .val (.ref h1.size), .unset] [(.int (1 : Int32)), (.ref h0.size)])) _
  refine XS.lloadN X3.here hx rfl (hb hby at_51) rfl ?_
  show Steps p.tables e below (T3.setTop (mkF m 52 #[.val (.long q1), .second, .val (.long q2), .second, .val (.long q3), .second, .val (.long q4), .second, .val (.long q5), .second, .val (.int p6), .val (.int (2 : Int32)), .val (.int (3 : Int32)), .val (.ref h0.size), .val (.ref h1.size), .unset] [(.long q2), (.int (1 : Int32)), (.ref h0.size)])) _
  refine st4 _ ?_
  show Steps p.tables e below (T4.setTop (mkF m 53 #[.val (.long q1), .second, .val (.long q2), .second, .val (.long q3), .second, .val (.long q4), .second, .val (.long q5), .second, .val (.int p6), .val (.int (2 : Int32)), .val (.int (3 : Int32)), .val (.ref h0.size), .val (.ref h1.size), .unset] [])) _
  refine XS.iload X4.here hx rfl (hb hby at_53) rfl ?_
  show Steps p.tables e below (T4.setTop (mkF m 55 #[.val (.long q1), .second, .val (.long q2), .second, .val (.long q3), .second, .val (.long q4), .second, .val (.long q5), .second, .val (.int p6), .val (.int (2 : Int32)), .val (.int (3 : Int32)), .val (.ref h0.size), .val (.ref h1.size), .unset] [(.int (3 : Int32))])) _
  refine XS.iconst X4.here hx rfl (hb hby at_55) ?_
  show Steps p.tables e below (T4.setTop (mkF m 56 #[.val (.long q1), .second, .val (.long q2), .second, .val (.long q3), .second, .val (.long q4), .second, .val (.long q5), .second, .val (.int p6), .val (.int (2 : Int32)), .val (.int (3 : Int32)), .val (.ref h0.size), .val (.ref h1.size), .unset] [(.int (1 : Int32)), (.int (3 : Int32))])) _
  refine XS.icmpNo X4.here hx rfl (hb hby at_56) rfl (flt (by decide)).1 ?_
  show Steps p.tables e below (T4.setTop (mkF m 59 #[.val (.long q1), .second, .val (.long q2), .second, .val (.long q3), .second, .val (.long q4), .second, .val (.long q5), .second, .val (.int p6), .val (.int (2 : Int32)), .val (.int (3 : Int32)), .val (.ref h0.size), .val (.ref h1.size), .unset] [])) _
  refine XS.aload X4.here hx rfl (hb hby at_59) rfl rfl ?_
  show Steps p.tables e below (T4.setTop (mkF m 61 #[.val (.long q1), .second, .val (.long q2), .second, .val (.long q3), .second, .val (.long q4), .second, .val (.long q5), .second, .val (.int p6), .val (.int (2 : Int32)), .val (.int (3 : Int32)), .val (.ref h0.size), .val (.ref h1.size), .unset] [(.ref h1.size)])) _
  refine XS.iconst X4.here hx rfl (hb hby at_61) ?_
  show Steps p.tables e below (T4.setTop (mkF m 62 #[.val (.long q1), .second, .val (.long q2), .second, .val (.long q3), .second, .val (.long q4), .second, .val (.long q5), .second, .val (.int p6), .val (.int (2 : Int32)), .val (.int (3 : Int32)), .val (.ref h0.size), .val (.ref h1.size), .unset] [(.int (0 : Int32)), (.ref h1.size)])) _
  refine XS.lload X4.here hx rfl (hb hby at_62) rfl ?_
  show Steps p.tables e below (T4.setTop (mkF m 64 #[.val (.long q1), .second, .val (.long q2), .second, .val (.long q3), .second, .val (.long q4), .second, .val (.long q5), .second, .val (.int p6), .val (.int (2 : Int32)), .val (.int (3 : Int32)), .val (.ref h0.size), .val (.ref h1.size), .unset] [(.long q3), (.int (0 : Int32)), (.ref h1.size)])) _
  refine st5 _ ?_
  show Steps p.tables e below (T5.setTop (mkF m 65 #[.val (.long q1), .second, .val (.long q2), .second, .val (.long q3), .second, .val (.long q4), .second, .val (.long q5), .second, .val (.int p6), .val (.int (2 : Int32)), .val (.int (3 : Int32)), .val (.ref h0.size), .val (.ref h1.size), .unset] [])) _
  refine XS.iload X5.here hx rfl (hb hby at_65) rfl ?_
  show Steps p.tables e below (T5.setTop (mkF m 67 #[.val (.long q1), .second, .val (.long q2), .second, .val (.long q3), .second, .val (.long q4), .second, .val (.long q5), .second, .val (.int p6), .val (.int (2 : Int32)), .val (.int (3 : Int32)), .val (.ref h0.size), .val (.ref h1.size), .unset] [(.int (3 : Int32))])) _
  refine XS.iconst X5.here hx rfl (hb hby at_67) ?_
  show Steps p.tables e below (T5.setTop (mkF m 68 #[.val (.long q1), .second, .val (.long q2), .second, .val (.long q3), .second, .val (.long q4), .second, .val (.long q5), .second, .val (.int p6), .val (.int (2 : Int32)), .val (.int (3 : Int32)), .val (.ref h0.size), .val (.ref h1.size), .unset] [(.int (2 : Int32)), (.int (3 : Int32))])) _
  refine XS.icmpNo X5.here hx rfl (hb hby at_68) rfl (flt (by decide)).1 ?_
  show Steps p.tables e below (T5.setTop (mkF m 71 #[.val (.long q1), .second, .val (.long q2), .second, .val (.long q3), .second, .val (.long q4), .second, .val (.long q5), .second, .val (.int p6), .val (.int (2 : Int32)), .val (.int (3 : Int32)), .val (.ref h0.size), .val (.ref h1.size), .unset] [])) _
  refine XS.aload X5.here hx rfl (hb hby at_71) rfl rfl ?_
  show Steps p.tables e below (T5.setTop (mkF m 73 #[.val (.long q1), .second, .val (.long q2), .second, .val (.long q3), .second, .val (.long q4), .second, .val (.long q5), .second, .val (.int p6), .val (.int (2 : Int32)), .val (.int (3 : Int32)), .val (.ref h0.size), .val (.ref h1.size), .unset] [(.ref h1.size)])) _
  refine XS.iconst X5.here hx rfl (hb hby at_73) ?_
  show Steps p.tables e below (T5.setTop (mkF m 74 #[.val (.long q1), .second, .val (.long q2), .second, .val (.long q3), .second, .val (.long q4), .second, .val (.long q5), .second, .val (.int p6), .val (.int (2 : Int32)), .val (.int (3 : Int32)), .val (.ref h0.size), .val (.ref h1.size), .unset] [(.int (1 : Int32)), (.ref h1.size)])) _
  refine XS.lload X5.here hx rfl (hb hby at_74) rfl ?_
  show Steps p.tables e below (T5.setTop (mkF m 76 #[.val (.long q1), .second, .val (.long q2), .second, .val (.long q3), .second, .val (.long q4), .second, .val (.long q5), .second, .val (.int p6), .val (.int (2 : Int32)), .val (.int (3 : Int32)), .val (.ref h0.size), .val (.ref h1.size), .unset] [(.long q4), (.int (1 : Int32)), (.ref h1.size)])) _
  refine st6 _ ?_
  show Steps p.tables e below (T6.setTop (mkF m 77 #[.val (.long q1), .second, .val (.long q2), .second, .val (.long q3), .second, .val (.long q4), .second, .val (.long q5), .second, .val (.int p6), .val (.int (2 : Int32)), .val (.int (3 : Int32)), .val (.ref h0.size), .val (.ref h1.size), .unset] [])) _
  refine XS.iload X6.here hx rfl (hb hby at_77) rfl ?_
  show Steps p.tables e below (T6.setTop (mkF m 79 #[.val (.long q1), .second, .val (.long q2), .second, .val (.long q3), .second, .val (.long q4), .second, .val (.long q5), .second, .val (.int p6), .val (.int (2 : Int32)), .val (.int (3 : Int32)), .val (.ref h0.size), .val (.ref h1.size), .unset] [(.int (3 : Int32))])) _
  refine XS.iconst X6.here hx rfl (hb hby at_79) ?_
  show Steps p.tables e below (T6.setTop (mkF m 80 #[.val (.long q1), .second, .val (.long q2), .second, .val (.long q3), .second, .val (.long q4), .second, .val (.long q5), .second, .val (.int p6), .val (.int (2 : Int32)), .val (.int (3 : Int32)), .val (.ref h0.size), .val (.ref h1.size), .unset] [(.int (3 : Int32)), (.int (3 : Int32))])) _
  refine XS.icmpNo X6.here hx rfl (hb hby at_80) rfl (flt (by decide)).1 ?_
  show Steps p.tables e below (T6.setTop (mkF m 83 #[.val (.long q1), .second, .val (.long q2), .second, .val (.long q3), .second, .val (.long q4), .second, .val (.long q5), .second, .val (.int p6), .val (.int (2 : Int32)), .val (.int (3 : Int32)), .val (.ref h0.size), .val (.ref h1.size), .unset] [])) _
  refine XS.aload X6.here hx rfl (hb hby at_83) rfl rfl ?_
  show Steps p.tables e below (T6.setTop (mkF m 85 #[.val (.long q1), .second, .val (.long q2), .second, .val (.long q3), .second, .val (.long q4), .second, .val (.long q5), .second, .val (.int p6), .val (.int (2 : Int32)), .val (.int (3 : Int32)), .val (.ref h0.size), .val (.ref h1.size), .unset] [(.ref h1.size)])) _
  refine XS.iconst X6.here hx rfl (hb hby at_85) ?_
  show Steps p.tables e below (T6.setTop (mkF m 86 #[.val (.long q1), .second, .val (.long q2), .second, .val (.long q3), .second, .val (.long q4), .second, .val (.long q5), .second, .val (.int p6), .val (.int (2 : Int32)), .val (.int (3 : Int32)), .val (.ref h0.size), .val (.ref h1.size), .unset] [(.int (2 : Int32)), (.ref h1.size)])) _
  refine XS.lload X6.here hx rfl (hb hby at_86) rfl ?_
  show Steps p.tables e below (T6.setTop (mkF m 88 #[.val (.long q1), .second, .val (.long q2), .second, .val (.long q3), .second, .val (.long q4), .second, .val (.long q5), .second, .val (.int p6), .val (.int (2 : Int32)), .val (.int (3 : Int32)), .val (.ref h0.size), .val (.ref h1.size), .unset] [(.long q5), (.int (2 : Int32)), (.ref h1.size)])) _
  refine st7 _ ?_
  exact kt
set_option maxRecDepth 65536 in
set_option maxHeartbeats 40000000 in
theorem fill {p : Program} {l : Launch} {e : Env} {s : State} {m : MethodId} {args : Array Value} {below : List Frame} {meth : Method} {c : Code} {T0 : State} {locs : List Loc} {Z : State} {a0 : Array Value} {h0 : Heap} {n0 : Nat} (q1 q2 q3 q4 q5 : Int64) (p6 : Int32) (n mm : Nat) (hn : n ≤ 2) (hmm : mm = n ∨ mm = n + 1)
    (X0 : Stand p l e room_1 s m args below meth c T0 locs 0 0) (hx : p.tables.exec = Jvm.exec) (hZ : Z.Warmed39 s.vm) (hw : ∀ d ∈ tables_1, d.before a0 Z = true) (hby : c.code = code) (hown : s.vm.findClass "com/example/sidetrip/sidetrip/dispatch/BitsIntersectsPinLaw" = some m.cls) (e0 : T0.heap = h0) (Z0 : n0 ≤ h0.size) (N0 : Fr n0 locs) :
    ∃ (T' : State) (h' : Heap) (o1 o2 : Addr) (locs' : List Loc), Stand p l e room_1 s m args below meth c T' locs' 2 5 ∧ T'.heap = h' ∧ Fr n0 locs' ∧ n0 ≤ h'.size ∧ AF Z h' o1 .long n (fun j => .long (own_A q1 q2 j)) ∧ AF Z h' o2 .long mm (fun j => .long (own_B q3 q4 q5 j)) ∧
      ∀ target, Steps p.tables e below (T'.setTop (mkF m 89 #[.val (.long q1), .second, .val (.long q2), .second, .val (.long q3), .second, .val (.long q4), .second, .val (.long q5), .second, .val (.int p6), .val (.int (Int32.ofNat n)), .val (.int (Int32.ofNat mm)), .val (.ref o1), .val (.ref o2), .unset] [])) target → Steps p.tables e below (T0.setTop (mkF m 19 #[.val (.long q1), .second, .val (.long q2), .second, .val (.long q3), .second, .val (.long q4), .second, .val (.long q5), .second, .val (.int p6), .val (.int (Int32.ofNat n)), .val (.int (Int32.ofNat mm)), .unset, .unset, .unset] [])) target := by
  rcases (by omega : n = 0 ∨ n = 1 ∨ n = 2) with rfl | rfl | rfl <;> rcases hmm with rfl | rfl
  · exact fill_0_0 q1 q2 q3 q4 q5 p6 X0 hx hZ hw hby hown e0 Z0 N0
  · exact fill_0_1 q1 q2 q3 q4 q5 p6 X0 hx hZ hw hby hown e0 Z0 N0
  · exact fill_1_1 q1 q2 q3 q4 q5 p6 X0 hx hZ hw hby hown e0 Z0 N0
  · exact fill_1_2 q1 q2 q3 q4 q5 p6 X0 hx hZ hw hby hown e0 Z0 N0
  · exact fill_2_2 q1 q2 q3 q4 q5 p6 X0 hx hZ hw hby hown e0 Z0 N0
  · exact fill_2_3 q1 q2 q3 q4 q5 p6 X0 hx hZ hw hby hown e0 Z0 N0
set_option maxRecDepth 65536 in
set_option maxHeartbeats 40000000 in
theorem ex0 {p : Program} {l : Launch} {e : Env} {R : Room} {s : State} {m : MethodId} {args : Array Value} {below : List Frame} {meth : Method} {c : Code} {T0 : State} {locs : List Loc} {cells slots : Nat} {Z : State} {a0 : Array Value} {h0 : Heap} (q1 q2 q3 q4 q5 : Int64) (p6 : Int32) (mm : Nat) (o1 o2 : Addr)
    (X0 : Stand p l e R s m args below meth c T0 locs cells slots) (hx : p.tables.exec = Jvm.exec) (hZ : Z.Warmed39 s.vm) (hw : ∀ d ∈ tables_1, d.before a0 Z = true) (hby : c.code = code) (hown : s.vm.findClass "com/example/sidetrip/sidetrip/dispatch/BitsIntersectsPinLaw" = some m.cls) (e0 : T0.heap = h0)  {target : State} (kt : Steps p.tables e below (T0.setTop (mkF m 126 #[.val (.long q1), .second, .val (.long q2), .second, .val (.long q3), .second, .val (.long q4), .second, .val (.long q5), .second, .val (.int p6), .val (.int (0 : Int32)), .val (.int (Int32.ofNat mm)), .val (.ref o1), .val (.ref o2), .val (.int (0 : Int32))] [])) target) :
    Steps p.tables e below (T0.setTop (mkF m 89 #[.val (.long q1), .second, .val (.long q2), .second, .val (.long q3), .second, .val (.long q4), .second, .val (.long q5), .second, .val (.int p6), .val (.int (0 : Int32)), .val (.int (Int32.ofNat mm)), .val (.ref o1), .val (.ref o2), .unset] [])) target := by
  show Steps p.tables e below (T0.setTop (mkF m 89 #[.val (.long q1), .second, .val (.long q2), .second, .val (.long q3), .second, .val (.long q4), .second, .val (.long q5), .second, .val (.int p6), .val (.int (0 : Int32)), .val (.int (Int32.ofNat mm)), .val (.ref o1), .val (.ref o2), .unset] [])) _
  refine XS.iload X0.here hx rfl (hb hby at_89) rfl ?_
  show Steps p.tables e below (T0.setTop (mkF m 91 #[.val (.long q1), .second, .val (.long q2), .second, .val (.long q3), .second, .val (.long q4), .second, .val (.long q5), .second, .val (.int p6), .val (.int (0 : Int32)), .val (.int (Int32.ofNat mm)), .val (.ref o1), .val (.ref o2), .unset] [(.int (0 : Int32))])) _
  refine XS.iconst X0.here hx rfl (hb hby at_91) ?_
  show Steps p.tables e below (T0.setTop (mkF m 92 #[.val (.long q1), .second, .val (.long q2), .second, .val (.long q3), .second, .val (.long q4), .second, .val (.long q5), .second, .val (.int p6), .val (.int (0 : Int32)), .val (.int (Int32.ofNat mm)), .val (.ref o1), .val (.ref o2), .unset] [(.int (1 : Int32)), (.int (0 : Int32))])) _
  refine XS.icmpYes X0.here hx rfl (pc0 := 92) (pc' := 104) rfl (hb hby at_92) rfl (tlt (by decide)).1 (by decide) (by decide) ?_
  show Steps p.tables e below (T0.setTop (mkF m 104 #[.val (.long q1), .second, .val (.long q2), .second, .val (.long q3), .second, .val (.long q4), .second, .val (.long q5), .second, .val (.int p6), .val (.int (0 : Int32)), .val (.int (Int32.ofNat mm)), .val (.ref o1), .val (.ref o2), .unset] [])) _
  refine XS.iload X0.here hx rfl (hb hby at_104) rfl ?_
  show Steps p.tables e below (T0.setTop (mkF m 106 #[.val (.long q1), .second, .val (.long q2), .second, .val (.long q3), .second, .val (.long q4), .second, .val (.long q5), .second, .val (.int p6), .val (.int (0 : Int32)), .val (.int (Int32.ofNat mm)), .val (.ref o1), .val (.ref o2), .unset] [(.int (0 : Int32))])) _
  refine XS.iconst X0.here hx rfl (hb hby at_106) ?_
  show Steps p.tables e below (T0.setTop (mkF m 107 #[.val (.long q1), .second, .val (.long q2), .second, .val (.long q3), .second, .val (.long q4), .second, .val (.long q5), .second, .val (.int p6), .val (.int (0 : Int32)), .val (.int (Int32.ofNat mm)), .val (.ref o1), .val (.ref o2), .unset] [(.int (2 : Int32)), (.int (0 : Int32))])) _
  refine XS.icmpYes X0.here hx rfl (pc0 := 107) (pc' := 123) rfl (hb hby at_107) rfl (tlt (by decide)).1 (by decide) (by decide) ?_
  show Steps p.tables e below (T0.setTop (mkF m 123 #[.val (.long q1), .second, .val (.long q2), .second, .val (.long q3), .second, .val (.long q4), .second, .val (.long q5), .second, .val (.int p6), .val (.int (0 : Int32)), .val (.int (Int32.ofNat mm)), .val (.ref o1), .val (.ref o2), .unset] [])) _
  refine XS.iconst X0.here hx rfl (hb hby at_123) ?_
  show Steps p.tables e below (T0.setTop (mkF m 124 #[.val (.long q1), .second, .val (.long q2), .second, .val (.long q3), .second, .val (.long q4), .second, .val (.long q5), .second, .val (.int p6), .val (.int (0 : Int32)), .val (.int (Int32.ofNat mm)), .val (.ref o1), .val (.ref o2), .unset] [(.int (0 : Int32))])) _
  refine XS.istore X0.here hx rfl (hb hby at_124) rfl (l' := #[.val (.long q1), .second, .val (.long q2), .second, .val (.long q3), .second, .val (.long q4), .second, .val (.long q5), .second, .val (.int p6), .val (.int (0 : Int32)), .val (.int (Int32.ofNat mm)), .val (.ref o1), .val (.ref o2), .val (.int (0 : Int32))]) rfl ?_
  exact kt
set_option maxRecDepth 65536 in
set_option maxHeartbeats 40000000 in
theorem ex1t {p : Program} {l : Launch} {e : Env} {R : Room} {s : State} {m : MethodId} {args : Array Value} {below : List Frame} {meth : Method} {c : Code} {T0 : State} {locs : List Loc} {cells slots : Nat} {Z : State} {a0 : Array Value} {h0 : Heap} (q1 q2 q3 q4 q5 : Int64) (p6 : Int32) (mm : Nat) (o1 o2 : Addr)
    (X0 : Stand p l e R s m args below meth c T0 locs cells slots) (hx : p.tables.exec = Jvm.exec) (hZ : Z.Warmed39 s.vm) (hw : ∀ d ∈ tables_1, d.before a0 Z = true) (hby : c.code = code) (hown : s.vm.findClass "com/example/sidetrip/sidetrip/dispatch/BitsIntersectsPinLaw" = some m.cls) (e0 : T0.heap = h0)  (h0c : ¬ lcmpW (q1 &&& q3) (0 : Int64) = (0 : Int32)) {target : State} (kt : Steps p.tables e below (T0.setTop (mkF m 126 #[.val (.long q1), .second, .val (.long q2), .second, .val (.long q3), .second, .val (.long q4), .second, .val (.long q5), .second, .val (.int p6), .val (.int (1 : Int32)), .val (.int (Int32.ofNat mm)), .val (.ref o1), .val (.ref o2), .val (.int (1 : Int32))] [])) target) :
    Steps p.tables e below (T0.setTop (mkF m 89 #[.val (.long q1), .second, .val (.long q2), .second, .val (.long q3), .second, .val (.long q4), .second, .val (.long q5), .second, .val (.int p6), .val (.int (1 : Int32)), .val (.int (Int32.ofNat mm)), .val (.ref o1), .val (.ref o2), .unset] [])) target := by
  show Steps p.tables e below (T0.setTop (mkF m 89 #[.val (.long q1), .second, .val (.long q2), .second, .val (.long q3), .second, .val (.long q4), .second, .val (.long q5), .second, .val (.int p6), .val (.int (1 : Int32)), .val (.int (Int32.ofNat mm)), .val (.ref o1), .val (.ref o2), .unset] [])) _
  refine XS.iload X0.here hx rfl (hb hby at_89) rfl ?_
  show Steps p.tables e below (T0.setTop (mkF m 91 #[.val (.long q1), .second, .val (.long q2), .second, .val (.long q3), .second, .val (.long q4), .second, .val (.long q5), .second, .val (.int p6), .val (.int (1 : Int32)), .val (.int (Int32.ofNat mm)), .val (.ref o1), .val (.ref o2), .unset] [(.int (1 : Int32))])) _
  refine XS.iconst X0.here hx rfl (hb hby at_91) ?_
  show Steps p.tables e below (T0.setTop (mkF m 92 #[.val (.long q1), .second, .val (.long q2), .second, .val (.long q3), .second, .val (.long q4), .second, .val (.long q5), .second, .val (.int p6), .val (.int (1 : Int32)), .val (.int (Int32.ofNat mm)), .val (.ref o1), .val (.ref o2), .unset] [(.int (1 : Int32)), (.int (1 : Int32))])) _
  refine XS.icmpNo X0.here hx rfl (hb hby at_92) rfl (flt (by decide)).1 ?_
  show Steps p.tables e below (T0.setTop (mkF m 95 #[.val (.long q1), .second, .val (.long q2), .second, .val (.long q3), .second, .val (.long q4), .second, .val (.long q5), .second, .val (.int p6), .val (.int (1 : Int32)), .val (.int (Int32.ofNat mm)), .val (.ref o1), .val (.ref o2), .unset] [])) _
  refine XS.lloadN X0.here hx rfl (hb hby at_95) rfl ?_
  show Steps p.tables e below (T0.setTop (mkF m 96 #[.val (.long q1), .second, .val (.long q2), .second, .val (.long q3), .second, .val (.long q4), .second, .val (.long q5), .second, .val (.int p6), .val (.int (1 : Int32)), .val (.int (Int32.ofNat mm)), .val (.ref o1), .val (.ref o2), .unset] [(.long q1)])) _
  refine XS.lload X0.here hx rfl (hb hby at_96) rfl ?_
  show Steps p.tables e below (T0.setTop (mkF m 98 #[.val (.long q1), .second, .val (.long q2), .second, .val (.long q3), .second, .val (.long q4), .second, .val (.long q5), .second, .val (.int p6), .val (.int (1 : Int32)), .val (.int (Int32.ofNat mm)), .val (.ref o1), .val (.ref o2), .unset] [(.long q3), (.long q1)])) _
  refine XS.land X0.here hx rfl (hb hby at_98) rfl ?_
  show Steps p.tables e below (T0.setTop (mkF m 99 #[.val (.long q1), .second, .val (.long q2), .second, .val (.long q3), .second, .val (.long q4), .second, .val (.long q5), .second, .val (.int p6), .val (.int (1 : Int32)), .val (.int (Int32.ofNat mm)), .val (.ref o1), .val (.ref o2), .unset] [(.long (q1 &&& q3))])) _
  refine XS.lconst X0.here hx rfl (hb hby at_99) ?_
  show Steps p.tables e below (T0.setTop (mkF m 100 #[.val (.long q1), .second, .val (.long q2), .second, .val (.long q3), .second, .val (.long q4), .second, .val (.long q5), .second, .val (.int p6), .val (.int (1 : Int32)), .val (.int (Int32.ofNat mm)), .val (.ref o1), .val (.ref o2), .unset] [(.long (0 : Int64)), (.long (q1 &&& q3))])) _
  refine XS.lcmp X0.here hx rfl (hb hby at_100) rfl ?_
  show Steps p.tables e below (T0.setTop (mkF m 101 #[.val (.long q1), .second, .val (.long q2), .second, .val (.long q3), .second, .val (.long q4), .second, .val (.long q5), .second, .val (.int p6), .val (.int (1 : Int32)), .val (.int (Int32.ofNat mm)), .val (.ref o1), .val (.ref o2), .unset] [(.int (lcmpW (q1 &&& q3) (0 : Int64)))])) _
  refine XS.ifYes X0.here hx rfl (pc0 := 101) (pc' := 119) rfl (hb hby at_101) rfl ((if0 _ _).trans (feq h0c).2) (by decide) (by decide) ?_
  show Steps p.tables e below (T0.setTop (mkF m 119 #[.val (.long q1), .second, .val (.long q2), .second, .val (.long q3), .second, .val (.long q4), .second, .val (.long q5), .second, .val (.int p6), .val (.int (1 : Int32)), .val (.int (Int32.ofNat mm)), .val (.ref o1), .val (.ref o2), .unset] [])) _
  refine XS.iconst X0.here hx rfl (hb hby at_119) ?_
  show Steps p.tables e below (T0.setTop (mkF m 120 #[.val (.long q1), .second, .val (.long q2), .second, .val (.long q3), .second, .val (.long q4), .second, .val (.long q5), .second, .val (.int p6), .val (.int (1 : Int32)), .val (.int (Int32.ofNat mm)), .val (.ref o1), .val (.ref o2), .unset] [(.int (1 : Int32))])) _
  refine XS.goto X0.here hx rfl (pc0 := 120) (pc' := 124) rfl (hb hby at_120) (by decide) (by decide) ?_
  show Steps p.tables e below (T0.setTop (mkF m 124 #[.val (.long q1), .second, .val (.long q2), .second, .val (.long q3), .second, .val (.long q4), .second, .val (.long q5), .second, .val (.int p6), .val (.int (1 : Int32)), .val (.int (Int32.ofNat mm)), .val (.ref o1), .val (.ref o2), .unset] [(.int (1 : Int32))])) _
  refine XS.istore X0.here hx rfl (hb hby at_124) rfl (l' := #[.val (.long q1), .second, .val (.long q2), .second, .val (.long q3), .second, .val (.long q4), .second, .val (.long q5), .second, .val (.int p6), .val (.int (1 : Int32)), .val (.int (Int32.ofNat mm)), .val (.ref o1), .val (.ref o2), .val (.int (1 : Int32))]) rfl ?_
  exact kt
set_option maxRecDepth 65536 in
set_option maxHeartbeats 40000000 in
theorem ex1f {p : Program} {l : Launch} {e : Env} {R : Room} {s : State} {m : MethodId} {args : Array Value} {below : List Frame} {meth : Method} {c : Code} {T0 : State} {locs : List Loc} {cells slots : Nat} {Z : State} {a0 : Array Value} {h0 : Heap} (q1 q2 q3 q4 q5 : Int64) (p6 : Int32) (mm : Nat) (o1 o2 : Addr)
    (X0 : Stand p l e R s m args below meth c T0 locs cells slots) (hx : p.tables.exec = Jvm.exec) (hZ : Z.Warmed39 s.vm) (hw : ∀ d ∈ tables_1, d.before a0 Z = true) (hby : c.code = code) (hown : s.vm.findClass "com/example/sidetrip/sidetrip/dispatch/BitsIntersectsPinLaw" = some m.cls) (e0 : T0.heap = h0)  (h0c : lcmpW (q1 &&& q3) (0 : Int64) = (0 : Int32)) {target : State} (kt : Steps p.tables e below (T0.setTop (mkF m 126 #[.val (.long q1), .second, .val (.long q2), .second, .val (.long q3), .second, .val (.long q4), .second, .val (.long q5), .second, .val (.int p6), .val (.int (1 : Int32)), .val (.int (Int32.ofNat mm)), .val (.ref o1), .val (.ref o2), .val (.int (0 : Int32))] [])) target) :
    Steps p.tables e below (T0.setTop (mkF m 89 #[.val (.long q1), .second, .val (.long q2), .second, .val (.long q3), .second, .val (.long q4), .second, .val (.long q5), .second, .val (.int p6), .val (.int (1 : Int32)), .val (.int (Int32.ofNat mm)), .val (.ref o1), .val (.ref o2), .unset] [])) target := by
  show Steps p.tables e below (T0.setTop (mkF m 89 #[.val (.long q1), .second, .val (.long q2), .second, .val (.long q3), .second, .val (.long q4), .second, .val (.long q5), .second, .val (.int p6), .val (.int (1 : Int32)), .val (.int (Int32.ofNat mm)), .val (.ref o1), .val (.ref o2), .unset] [])) _
  refine XS.iload X0.here hx rfl (hb hby at_89) rfl ?_
  show Steps p.tables e below (T0.setTop (mkF m 91 #[.val (.long q1), .second, .val (.long q2), .second, .val (.long q3), .second, .val (.long q4), .second, .val (.long q5), .second, .val (.int p6), .val (.int (1 : Int32)), .val (.int (Int32.ofNat mm)), .val (.ref o1), .val (.ref o2), .unset] [(.int (1 : Int32))])) _
  refine XS.iconst X0.here hx rfl (hb hby at_91) ?_
  show Steps p.tables e below (T0.setTop (mkF m 92 #[.val (.long q1), .second, .val (.long q2), .second, .val (.long q3), .second, .val (.long q4), .second, .val (.long q5), .second, .val (.int p6), .val (.int (1 : Int32)), .val (.int (Int32.ofNat mm)), .val (.ref o1), .val (.ref o2), .unset] [(.int (1 : Int32)), (.int (1 : Int32))])) _
  refine XS.icmpNo X0.here hx rfl (hb hby at_92) rfl (flt (by decide)).1 ?_
  show Steps p.tables e below (T0.setTop (mkF m 95 #[.val (.long q1), .second, .val (.long q2), .second, .val (.long q3), .second, .val (.long q4), .second, .val (.long q5), .second, .val (.int p6), .val (.int (1 : Int32)), .val (.int (Int32.ofNat mm)), .val (.ref o1), .val (.ref o2), .unset] [])) _
  refine XS.lloadN X0.here hx rfl (hb hby at_95) rfl ?_
  show Steps p.tables e below (T0.setTop (mkF m 96 #[.val (.long q1), .second, .val (.long q2), .second, .val (.long q3), .second, .val (.long q4), .second, .val (.long q5), .second, .val (.int p6), .val (.int (1 : Int32)), .val (.int (Int32.ofNat mm)), .val (.ref o1), .val (.ref o2), .unset] [(.long q1)])) _
  refine XS.lload X0.here hx rfl (hb hby at_96) rfl ?_
  show Steps p.tables e below (T0.setTop (mkF m 98 #[.val (.long q1), .second, .val (.long q2), .second, .val (.long q3), .second, .val (.long q4), .second, .val (.long q5), .second, .val (.int p6), .val (.int (1 : Int32)), .val (.int (Int32.ofNat mm)), .val (.ref o1), .val (.ref o2), .unset] [(.long q3), (.long q1)])) _
  refine XS.land X0.here hx rfl (hb hby at_98) rfl ?_
  show Steps p.tables e below (T0.setTop (mkF m 99 #[.val (.long q1), .second, .val (.long q2), .second, .val (.long q3), .second, .val (.long q4), .second, .val (.long q5), .second, .val (.int p6), .val (.int (1 : Int32)), .val (.int (Int32.ofNat mm)), .val (.ref o1), .val (.ref o2), .unset] [(.long (q1 &&& q3))])) _
  refine XS.lconst X0.here hx rfl (hb hby at_99) ?_
  show Steps p.tables e below (T0.setTop (mkF m 100 #[.val (.long q1), .second, .val (.long q2), .second, .val (.long q3), .second, .val (.long q4), .second, .val (.long q5), .second, .val (.int p6), .val (.int (1 : Int32)), .val (.int (Int32.ofNat mm)), .val (.ref o1), .val (.ref o2), .unset] [(.long (0 : Int64)), (.long (q1 &&& q3))])) _
  refine XS.lcmp X0.here hx rfl (hb hby at_100) rfl ?_
  show Steps p.tables e below (T0.setTop (mkF m 101 #[.val (.long q1), .second, .val (.long q2), .second, .val (.long q3), .second, .val (.long q4), .second, .val (.long q5), .second, .val (.int p6), .val (.int (1 : Int32)), .val (.int (Int32.ofNat mm)), .val (.ref o1), .val (.ref o2), .unset] [(.int (lcmpW (q1 &&& q3) (0 : Int64)))])) _
  refine XS.ifNo X0.here hx rfl (hb hby at_101) rfl ((if0 _ _).trans (teq h0c).2) ?_
  show Steps p.tables e below (T0.setTop (mkF m 104 #[.val (.long q1), .second, .val (.long q2), .second, .val (.long q3), .second, .val (.long q4), .second, .val (.long q5), .second, .val (.int p6), .val (.int (1 : Int32)), .val (.int (Int32.ofNat mm)), .val (.ref o1), .val (.ref o2), .unset] [])) _
  refine XS.iload X0.here hx rfl (hb hby at_104) rfl ?_
  show Steps p.tables e below (T0.setTop (mkF m 106 #[.val (.long q1), .second, .val (.long q2), .second, .val (.long q3), .second, .val (.long q4), .second, .val (.long q5), .second, .val (.int p6), .val (.int (1 : Int32)), .val (.int (Int32.ofNat mm)), .val (.ref o1), .val (.ref o2), .unset] [(.int (1 : Int32))])) _
  refine XS.iconst X0.here hx rfl (hb hby at_106) ?_
  show Steps p.tables e below (T0.setTop (mkF m 107 #[.val (.long q1), .second, .val (.long q2), .second, .val (.long q3), .second, .val (.long q4), .second, .val (.long q5), .second, .val (.int p6), .val (.int (1 : Int32)), .val (.int (Int32.ofNat mm)), .val (.ref o1), .val (.ref o2), .unset] [(.int (2 : Int32)), (.int (1 : Int32))])) _
  refine XS.icmpYes X0.here hx rfl (pc0 := 107) (pc' := 123) rfl (hb hby at_107) rfl (tlt (by decide)).1 (by decide) (by decide) ?_
  show Steps p.tables e below (T0.setTop (mkF m 123 #[.val (.long q1), .second, .val (.long q2), .second, .val (.long q3), .second, .val (.long q4), .second, .val (.long q5), .second, .val (.int p6), .val (.int (1 : Int32)), .val (.int (Int32.ofNat mm)), .val (.ref o1), .val (.ref o2), .unset] [])) _
  refine XS.iconst X0.here hx rfl (hb hby at_123) ?_
  show Steps p.tables e below (T0.setTop (mkF m 124 #[.val (.long q1), .second, .val (.long q2), .second, .val (.long q3), .second, .val (.long q4), .second, .val (.long q5), .second, .val (.int p6), .val (.int (1 : Int32)), .val (.int (Int32.ofNat mm)), .val (.ref o1), .val (.ref o2), .unset] [(.int (0 : Int32))])) _
  refine XS.istore X0.here hx rfl (hb hby at_124) rfl (l' := #[.val (.long q1), .second, .val (.long q2), .second, .val (.long q3), .second, .val (.long q4), .second, .val (.long q5), .second, .val (.int p6), .val (.int (1 : Int32)), .val (.int (Int32.ofNat mm)), .val (.ref o1), .val (.ref o2), .val (.int (0 : Int32))]) rfl ?_
  exact kt
set_option maxRecDepth 65536 in
set_option maxHeartbeats 40000000 in
theorem ex2t {p : Program} {l : Launch} {e : Env} {R : Room} {s : State} {m : MethodId} {args : Array Value} {below : List Frame} {meth : Method} {c : Code} {T0 : State} {locs : List Loc} {cells slots : Nat} {Z : State} {a0 : Array Value} {h0 : Heap} (q1 q2 q3 q4 q5 : Int64) (p6 : Int32) (mm : Nat) (o1 o2 : Addr)
    (X0 : Stand p l e R s m args below meth c T0 locs cells slots) (hx : p.tables.exec = Jvm.exec) (hZ : Z.Warmed39 s.vm) (hw : ∀ d ∈ tables_1, d.before a0 Z = true) (hby : c.code = code) (hown : s.vm.findClass "com/example/sidetrip/sidetrip/dispatch/BitsIntersectsPinLaw" = some m.cls) (e0 : T0.heap = h0)  (h0c : ¬ lcmpW (q1 &&& q3) (0 : Int64) = (0 : Int32)) {target : State} (kt : Steps p.tables e below (T0.setTop (mkF m 126 #[.val (.long q1), .second, .val (.long q2), .second, .val (.long q3), .second, .val (.long q4), .second, .val (.long q5), .second, .val (.int p6), .val (.int (2 : Int32)), .val (.int (Int32.ofNat mm)), .val (.ref o1), .val (.ref o2), .val (.int (1 : Int32))] [])) target) :
    Steps p.tables e below (T0.setTop (mkF m 89 #[.val (.long q1), .second, .val (.long q2), .second, .val (.long q3), .second, .val (.long q4), .second, .val (.long q5), .second, .val (.int p6), .val (.int (2 : Int32)), .val (.int (Int32.ofNat mm)), .val (.ref o1), .val (.ref o2), .unset] [])) target := by
  show Steps p.tables e below (T0.setTop (mkF m 89 #[.val (.long q1), .second, .val (.long q2), .second, .val (.long q3), .second, .val (.long q4), .second, .val (.long q5), .second, .val (.int p6), .val (.int (2 : Int32)), .val (.int (Int32.ofNat mm)), .val (.ref o1), .val (.ref o2), .unset] [])) _
  refine XS.iload X0.here hx rfl (hb hby at_89) rfl ?_
  show Steps p.tables e below (T0.setTop (mkF m 91 #[.val (.long q1), .second, .val (.long q2), .second, .val (.long q3), .second, .val (.long q4), .second, .val (.long q5), .second, .val (.int p6), .val (.int (2 : Int32)), .val (.int (Int32.ofNat mm)), .val (.ref o1), .val (.ref o2), .unset] [(.int (2 : Int32))])) _
  refine XS.iconst X0.here hx rfl (hb hby at_91) ?_
  show Steps p.tables e below (T0.setTop (mkF m 92 #[.val (.long q1), .second, .val (.long q2), .second, .val (.long q3), .second, .val (.long q4), .second, .val (.long q5), .second, .val (.int p6), .val (.int (2 : Int32)), .val (.int (Int32.ofNat mm)), .val (.ref o1), .val (.ref o2), .unset] [(.int (1 : Int32)), (.int (2 : Int32))])) _
  refine XS.icmpNo X0.here hx rfl (hb hby at_92) rfl (flt (by decide)).1 ?_
  show Steps p.tables e below (T0.setTop (mkF m 95 #[.val (.long q1), .second, .val (.long q2), .second, .val (.long q3), .second, .val (.long q4), .second, .val (.long q5), .second, .val (.int p6), .val (.int (2 : Int32)), .val (.int (Int32.ofNat mm)), .val (.ref o1), .val (.ref o2), .unset] [])) _
  refine XS.lloadN X0.here hx rfl (hb hby at_95) rfl ?_
  show Steps p.tables e below (T0.setTop (mkF m 96 #[.val (.long q1), .second, .val (.long q2), .second, .val (.long q3), .second, .val (.long q4), .second, .val (.long q5), .second, .val (.int p6), .val (.int (2 : Int32)), .val (.int (Int32.ofNat mm)), .val (.ref o1), .val (.ref o2), .unset] [(.long q1)])) _
  refine XS.lload X0.here hx rfl (hb hby at_96) rfl ?_
  show Steps p.tables e below (T0.setTop (mkF m 98 #[.val (.long q1), .second, .val (.long q2), .second, .val (.long q3), .second, .val (.long q4), .second, .val (.long q5), .second, .val (.int p6), .val (.int (2 : Int32)), .val (.int (Int32.ofNat mm)), .val (.ref o1), .val (.ref o2), .unset] [(.long q3), (.long q1)])) _
  refine XS.land X0.here hx rfl (hb hby at_98) rfl ?_
  show Steps p.tables e below (T0.setTop (mkF m 99 #[.val (.long q1), .second, .val (.long q2), .second, .val (.long q3), .second, .val (.long q4), .second, .val (.long q5), .second, .val (.int p6), .val (.int (2 : Int32)), .val (.int (Int32.ofNat mm)), .val (.ref o1), .val (.ref o2), .unset] [(.long (q1 &&& q3))])) _
  refine XS.lconst X0.here hx rfl (hb hby at_99) ?_
  show Steps p.tables e below (T0.setTop (mkF m 100 #[.val (.long q1), .second, .val (.long q2), .second, .val (.long q3), .second, .val (.long q4), .second, .val (.long q5), .second, .val (.int p6), .val (.int (2 : Int32)), .val (.int (Int32.ofNat mm)), .val (.ref o1), .val (.ref o2), .unset] [(.long (0 : Int64)), (.long (q1 &&& q3))])) _
  refine XS.lcmp X0.here hx rfl (hb hby at_100) rfl ?_
  show Steps p.tables e below (T0.setTop (mkF m 101 #[.val (.long q1), .second, .val (.long q2), .second, .val (.long q3), .second, .val (.long q4), .second, .val (.long q5), .second, .val (.int p6), .val (.int (2 : Int32)), .val (.int (Int32.ofNat mm)), .val (.ref o1), .val (.ref o2), .unset] [(.int (lcmpW (q1 &&& q3) (0 : Int64)))])) _
  refine XS.ifYes X0.here hx rfl (pc0 := 101) (pc' := 119) rfl (hb hby at_101) rfl ((if0 _ _).trans (feq h0c).2) (by decide) (by decide) ?_
  show Steps p.tables e below (T0.setTop (mkF m 119 #[.val (.long q1), .second, .val (.long q2), .second, .val (.long q3), .second, .val (.long q4), .second, .val (.long q5), .second, .val (.int p6), .val (.int (2 : Int32)), .val (.int (Int32.ofNat mm)), .val (.ref o1), .val (.ref o2), .unset] [])) _
  refine XS.iconst X0.here hx rfl (hb hby at_119) ?_
  show Steps p.tables e below (T0.setTop (mkF m 120 #[.val (.long q1), .second, .val (.long q2), .second, .val (.long q3), .second, .val (.long q4), .second, .val (.long q5), .second, .val (.int p6), .val (.int (2 : Int32)), .val (.int (Int32.ofNat mm)), .val (.ref o1), .val (.ref o2), .unset] [(.int (1 : Int32))])) _
  refine XS.goto X0.here hx rfl (pc0 := 120) (pc' := 124) rfl (hb hby at_120) (by decide) (by decide) ?_
  show Steps p.tables e below (T0.setTop (mkF m 124 #[.val (.long q1), .second, .val (.long q2), .second, .val (.long q3), .second, .val (.long q4), .second, .val (.long q5), .second, .val (.int p6), .val (.int (2 : Int32)), .val (.int (Int32.ofNat mm)), .val (.ref o1), .val (.ref o2), .unset] [(.int (1 : Int32))])) _
  refine XS.istore X0.here hx rfl (hb hby at_124) rfl (l' := #[.val (.long q1), .second, .val (.long q2), .second, .val (.long q3), .second, .val (.long q4), .second, .val (.long q5), .second, .val (.int p6), .val (.int (2 : Int32)), .val (.int (Int32.ofNat mm)), .val (.ref o1), .val (.ref o2), .val (.int (1 : Int32))]) rfl ?_
  exact kt
set_option maxRecDepth 65536 in
set_option maxHeartbeats 40000000 in
theorem ex2ft {p : Program} {l : Launch} {e : Env} {R : Room} {s : State} {m : MethodId} {args : Array Value} {below : List Frame} {meth : Method} {c : Code} {T0 : State} {locs : List Loc} {cells slots : Nat} {Z : State} {a0 : Array Value} {h0 : Heap} (q1 q2 q3 q4 q5 : Int64) (p6 : Int32) (mm : Nat) (o1 o2 : Addr)
    (X0 : Stand p l e R s m args below meth c T0 locs cells slots) (hx : p.tables.exec = Jvm.exec) (hZ : Z.Warmed39 s.vm) (hw : ∀ d ∈ tables_1, d.before a0 Z = true) (hby : c.code = code) (hown : s.vm.findClass "com/example/sidetrip/sidetrip/dispatch/BitsIntersectsPinLaw" = some m.cls) (e0 : T0.heap = h0)  (h0c : lcmpW (q1 &&& q3) (0 : Int64) = (0 : Int32)) (h1c : ¬ lcmpW (q2 &&& q4) (0 : Int64) = (0 : Int32)) {target : State} (kt : Steps p.tables e below (T0.setTop (mkF m 126 #[.val (.long q1), .second, .val (.long q2), .second, .val (.long q3), .second, .val (.long q4), .second, .val (.long q5), .second, .val (.int p6), .val (.int (2 : Int32)), .val (.int (Int32.ofNat mm)), .val (.ref o1), .val (.ref o2), .val (.int (1 : Int32))] [])) target) :
    Steps p.tables e below (T0.setTop (mkF m 89 #[.val (.long q1), .second, .val (.long q2), .second, .val (.long q3), .second, .val (.long q4), .second, .val (.long q5), .second, .val (.int p6), .val (.int (2 : Int32)), .val (.int (Int32.ofNat mm)), .val (.ref o1), .val (.ref o2), .unset] [])) target := by
  show Steps p.tables e below (T0.setTop (mkF m 89 #[.val (.long q1), .second, .val (.long q2), .second, .val (.long q3), .second, .val (.long q4), .second, .val (.long q5), .second, .val (.int p6), .val (.int (2 : Int32)), .val (.int (Int32.ofNat mm)), .val (.ref o1), .val (.ref o2), .unset] [])) _
  refine XS.iload X0.here hx rfl (hb hby at_89) rfl ?_
  show Steps p.tables e below (T0.setTop (mkF m 91 #[.val (.long q1), .second, .val (.long q2), .second, .val (.long q3), .second, .val (.long q4), .second, .val (.long q5), .second, .val (.int p6), .val (.int (2 : Int32)), .val (.int (Int32.ofNat mm)), .val (.ref o1), .val (.ref o2), .unset] [(.int (2 : Int32))])) _
  refine XS.iconst X0.here hx rfl (hb hby at_91) ?_
  show Steps p.tables e below (T0.setTop (mkF m 92 #[.val (.long q1), .second, .val (.long q2), .second, .val (.long q3), .second, .val (.long q4), .second, .val (.long q5), .second, .val (.int p6), .val (.int (2 : Int32)), .val (.int (Int32.ofNat mm)), .val (.ref o1), .val (.ref o2), .unset] [(.int (1 : Int32)), (.int (2 : Int32))])) _
  refine XS.icmpNo X0.here hx rfl (hb hby at_92) rfl (flt (by decide)).1 ?_
  show Steps p.tables e below (T0.setTop (mkF m 95 #[.val (.long q1), .second, .val (.long q2), .second, .val (.long q3), .second, .val (.long q4), .second, .val (.long q5), .second, .val (.int p6), .val (.int (2 : Int32)), .val (.int (Int32.ofNat mm)), .val (.ref o1), .val (.ref o2), .unset] [])) _
  refine XS.lloadN X0.here hx rfl (hb hby at_95) rfl ?_
  show Steps p.tables e below (T0.setTop (mkF m 96 #[.val (.long q1), .second, .val (.long q2), .second, .val (.long q3), .second, .val (.long q4), .second, .val (.long q5), .second, .val (.int p6), .val (.int (2 : Int32)), .val (.int (Int32.ofNat mm)), .val (.ref o1), .val (.ref o2), .unset] [(.long q1)])) _
  refine XS.lload X0.here hx rfl (hb hby at_96) rfl ?_
  show Steps p.tables e below (T0.setTop (mkF m 98 #[.val (.long q1), .second, .val (.long q2), .second, .val (.long q3), .second, .val (.long q4), .second, .val (.long q5), .second, .val (.int p6), .val (.int (2 : Int32)), .val (.int (Int32.ofNat mm)), .val (.ref o1), .val (.ref o2), .unset] [(.long q3), (.long q1)])) _
  refine XS.land X0.here hx rfl (hb hby at_98) rfl ?_
  show Steps p.tables e below (T0.setTop (mkF m 99 #[.val (.long q1), .second, .val (.long q2), .second, .val (.long q3), .second, .val (.long q4), .second, .val (.long q5), .second, .val (.int p6), .val (.int (2 : Int32)), .val (.int (Int32.ofNat mm)), .val (.ref o1), .val (.ref o2), .unset] [(.long (q1 &&& q3))])) _
  refine XS.lconst X0.here hx rfl (hb hby at_99) ?_
  show Steps p.tables e below (T0.setTop (mkF m 100 #[.val (.long q1), .second, .val (.long q2), .second, .val (.long q3), .second, .val (.long q4), .second, .val (.long q5), .second, .val (.int p6), .val (.int (2 : Int32)), .val (.int (Int32.ofNat mm)), .val (.ref o1), .val (.ref o2), .unset] [(.long (0 : Int64)), (.long (q1 &&& q3))])) _
  refine XS.lcmp X0.here hx rfl (hb hby at_100) rfl ?_
  show Steps p.tables e below (T0.setTop (mkF m 101 #[.val (.long q1), .second, .val (.long q2), .second, .val (.long q3), .second, .val (.long q4), .second, .val (.long q5), .second, .val (.int p6), .val (.int (2 : Int32)), .val (.int (Int32.ofNat mm)), .val (.ref o1), .val (.ref o2), .unset] [(.int (lcmpW (q1 &&& q3) (0 : Int64)))])) _
  refine XS.ifNo X0.here hx rfl (hb hby at_101) rfl ((if0 _ _).trans (teq h0c).2) ?_
  show Steps p.tables e below (T0.setTop (mkF m 104 #[.val (.long q1), .second, .val (.long q2), .second, .val (.long q3), .second, .val (.long q4), .second, .val (.long q5), .second, .val (.int p6), .val (.int (2 : Int32)), .val (.int (Int32.ofNat mm)), .val (.ref o1), .val (.ref o2), .unset] [])) _
  refine XS.iload X0.here hx rfl (hb hby at_104) rfl ?_
  show Steps p.tables e below (T0.setTop (mkF m 106 #[.val (.long q1), .second, .val (.long q2), .second, .val (.long q3), .second, .val (.long q4), .second, .val (.long q5), .second, .val (.int p6), .val (.int (2 : Int32)), .val (.int (Int32.ofNat mm)), .val (.ref o1), .val (.ref o2), .unset] [(.int (2 : Int32))])) _
  refine XS.iconst X0.here hx rfl (hb hby at_106) ?_
  show Steps p.tables e below (T0.setTop (mkF m 107 #[.val (.long q1), .second, .val (.long q2), .second, .val (.long q3), .second, .val (.long q4), .second, .val (.long q5), .second, .val (.int p6), .val (.int (2 : Int32)), .val (.int (Int32.ofNat mm)), .val (.ref o1), .val (.ref o2), .unset] [(.int (2 : Int32)), (.int (2 : Int32))])) _
  refine XS.icmpNo X0.here hx rfl (hb hby at_107) rfl (flt (by decide)).1 ?_
  show Steps p.tables e below (T0.setTop (mkF m 110 #[.val (.long q1), .second, .val (.long q2), .second, .val (.long q3), .second, .val (.long q4), .second, .val (.long q5), .second, .val (.int p6), .val (.int (2 : Int32)), .val (.int (Int32.ofNat mm)), .val (.ref o1), .val (.ref o2), .unset] [])) _
  refine XS.lloadN X0.here hx rfl (hb hby at_110) rfl ?_
  show Steps p.tables e below (T0.setTop (mkF m 111 #[.val (.long q1), .second, .val (.long q2), .second, .val (.long q3), .second, .val (.long q4), .second, .val (.long q5), .second, .val (.int p6), .val (.int (2 : Int32)), .val (.int (Int32.ofNat mm)), .val (.ref o1), .val (.ref o2), .unset] [(.long q2)])) _
  refine XS.lload X0.here hx rfl (hb hby at_111) rfl ?_
  show Steps p.tables e below (T0.setTop (mkF m 113 #[.val (.long q1), .second, .val (.long q2), .second, .val (.long q3), .second, .val (.long q4), .second, .val (.long q5), .second, .val (.int p6), .val (.int (2 : Int32)), .val (.int (Int32.ofNat mm)), .val (.ref o1), .val (.ref o2), .unset] [(.long q4), (.long q2)])) _
  refine XS.land X0.here hx rfl (hb hby at_113) rfl ?_
  show Steps p.tables e below (T0.setTop (mkF m 114 #[.val (.long q1), .second, .val (.long q2), .second, .val (.long q3), .second, .val (.long q4), .second, .val (.long q5), .second, .val (.int p6), .val (.int (2 : Int32)), .val (.int (Int32.ofNat mm)), .val (.ref o1), .val (.ref o2), .unset] [(.long (q2 &&& q4))])) _
  refine XS.lconst X0.here hx rfl (hb hby at_114) ?_
  show Steps p.tables e below (T0.setTop (mkF m 115 #[.val (.long q1), .second, .val (.long q2), .second, .val (.long q3), .second, .val (.long q4), .second, .val (.long q5), .second, .val (.int p6), .val (.int (2 : Int32)), .val (.int (Int32.ofNat mm)), .val (.ref o1), .val (.ref o2), .unset] [(.long (0 : Int64)), (.long (q2 &&& q4))])) _
  refine XS.lcmp X0.here hx rfl (hb hby at_115) rfl ?_
  show Steps p.tables e below (T0.setTop (mkF m 116 #[.val (.long q1), .second, .val (.long q2), .second, .val (.long q3), .second, .val (.long q4), .second, .val (.long q5), .second, .val (.int p6), .val (.int (2 : Int32)), .val (.int (Int32.ofNat mm)), .val (.ref o1), .val (.ref o2), .unset] [(.int (lcmpW (q2 &&& q4) (0 : Int64)))])) _
  refine XS.ifNo X0.here hx rfl (hb hby at_116) rfl ((if0 _ _).trans (feq h1c).1) ?_
  show Steps p.tables e below (T0.setTop (mkF m 119 #[.val (.long q1), .second, .val (.long q2), .second, .val (.long q3), .second, .val (.long q4), .second, .val (.long q5), .second, .val (.int p6), .val (.int (2 : Int32)), .val (.int (Int32.ofNat mm)), .val (.ref o1), .val (.ref o2), .unset] [])) _
  refine XS.iconst X0.here hx rfl (hb hby at_119) ?_
  show Steps p.tables e below (T0.setTop (mkF m 120 #[.val (.long q1), .second, .val (.long q2), .second, .val (.long q3), .second, .val (.long q4), .second, .val (.long q5), .second, .val (.int p6), .val (.int (2 : Int32)), .val (.int (Int32.ofNat mm)), .val (.ref o1), .val (.ref o2), .unset] [(.int (1 : Int32))])) _
  refine XS.goto X0.here hx rfl (pc0 := 120) (pc' := 124) rfl (hb hby at_120) (by decide) (by decide) ?_
  show Steps p.tables e below (T0.setTop (mkF m 124 #[.val (.long q1), .second, .val (.long q2), .second, .val (.long q3), .second, .val (.long q4), .second, .val (.long q5), .second, .val (.int p6), .val (.int (2 : Int32)), .val (.int (Int32.ofNat mm)), .val (.ref o1), .val (.ref o2), .unset] [(.int (1 : Int32))])) _
  refine XS.istore X0.here hx rfl (hb hby at_124) rfl (l' := #[.val (.long q1), .second, .val (.long q2), .second, .val (.long q3), .second, .val (.long q4), .second, .val (.long q5), .second, .val (.int p6), .val (.int (2 : Int32)), .val (.int (Int32.ofNat mm)), .val (.ref o1), .val (.ref o2), .val (.int (1 : Int32))]) rfl ?_
  exact kt
set_option maxRecDepth 65536 in
set_option maxHeartbeats 40000000 in
theorem ex2ff {p : Program} {l : Launch} {e : Env} {R : Room} {s : State} {m : MethodId} {args : Array Value} {below : List Frame} {meth : Method} {c : Code} {T0 : State} {locs : List Loc} {cells slots : Nat} {Z : State} {a0 : Array Value} {h0 : Heap} (q1 q2 q3 q4 q5 : Int64) (p6 : Int32) (mm : Nat) (o1 o2 : Addr)
    (X0 : Stand p l e R s m args below meth c T0 locs cells slots) (hx : p.tables.exec = Jvm.exec) (hZ : Z.Warmed39 s.vm) (hw : ∀ d ∈ tables_1, d.before a0 Z = true) (hby : c.code = code) (hown : s.vm.findClass "com/example/sidetrip/sidetrip/dispatch/BitsIntersectsPinLaw" = some m.cls) (e0 : T0.heap = h0)  (h0c : lcmpW (q1 &&& q3) (0 : Int64) = (0 : Int32)) (h1c : lcmpW (q2 &&& q4) (0 : Int64) = (0 : Int32)) {target : State} (kt : Steps p.tables e below (T0.setTop (mkF m 126 #[.val (.long q1), .second, .val (.long q2), .second, .val (.long q3), .second, .val (.long q4), .second, .val (.long q5), .second, .val (.int p6), .val (.int (2 : Int32)), .val (.int (Int32.ofNat mm)), .val (.ref o1), .val (.ref o2), .val (.int (0 : Int32))] [])) target) :
    Steps p.tables e below (T0.setTop (mkF m 89 #[.val (.long q1), .second, .val (.long q2), .second, .val (.long q3), .second, .val (.long q4), .second, .val (.long q5), .second, .val (.int p6), .val (.int (2 : Int32)), .val (.int (Int32.ofNat mm)), .val (.ref o1), .val (.ref o2), .unset] [])) target := by
  show Steps p.tables e below (T0.setTop (mkF m 89 #[.val (.long q1), .second, .val (.long q2), .second, .val (.long q3), .second, .val (.long q4), .second, .val (.long q5), .second, .val (.int p6), .val (.int (2 : Int32)), .val (.int (Int32.ofNat mm)), .val (.ref o1), .val (.ref o2), .unset] [])) _
  refine XS.iload X0.here hx rfl (hb hby at_89) rfl ?_
  show Steps p.tables e below (T0.setTop (mkF m 91 #[.val (.long q1), .second, .val (.long q2), .second, .val (.long q3), .second, .val (.long q4), .second, .val (.long q5), .second, .val (.int p6), .val (.int (2 : Int32)), .val (.int (Int32.ofNat mm)), .val (.ref o1), .val (.ref o2), .unset] [(.int (2 : Int32))])) _
  refine XS.iconst X0.here hx rfl (hb hby at_91) ?_
  show Steps p.tables e below (T0.setTop (mkF m 92 #[.val (.long q1), .second, .val (.long q2), .second, .val (.long q3), .second, .val (.long q4), .second, .val (.long q5), .second, .val (.int p6), .val (.int (2 : Int32)), .val (.int (Int32.ofNat mm)), .val (.ref o1), .val (.ref o2), .unset] [(.int (1 : Int32)), (.int (2 : Int32))])) _
  refine XS.icmpNo X0.here hx rfl (hb hby at_92) rfl (flt (by decide)).1 ?_
  show Steps p.tables e below (T0.setTop (mkF m 95 #[.val (.long q1), .second, .val (.long q2), .second, .val (.long q3), .second, .val (.long q4), .second, .val (.long q5), .second, .val (.int p6), .val (.int (2 : Int32)), .val (.int (Int32.ofNat mm)), .val (.ref o1), .val (.ref o2), .unset] [])) _
  refine XS.lloadN X0.here hx rfl (hb hby at_95) rfl ?_
  show Steps p.tables e below (T0.setTop (mkF m 96 #[.val (.long q1), .second, .val (.long q2), .second, .val (.long q3), .second, .val (.long q4), .second, .val (.long q5), .second, .val (.int p6), .val (.int (2 : Int32)), .val (.int (Int32.ofNat mm)), .val (.ref o1), .val (.ref o2), .unset] [(.long q1)])) _
  refine XS.lload X0.here hx rfl (hb hby at_96) rfl ?_
  show Steps p.tables e below (T0.setTop (mkF m 98 #[.val (.long q1), .second, .val (.long q2), .second, .val (.long q3), .second, .val (.long q4), .second, .val (.long q5), .second, .val (.int p6), .val (.int (2 : Int32)), .val (.int (Int32.ofNat mm)), .val (.ref o1), .val (.ref o2), .unset] [(.long q3), (.long q1)])) _
  refine XS.land X0.here hx rfl (hb hby at_98) rfl ?_
  show Steps p.tables e below (T0.setTop (mkF m 99 #[.val (.long q1), .second, .val (.long q2), .second, .val (.long q3), .second, .val (.long q4), .second, .val (.long q5), .second, .val (.int p6), .val (.int (2 : Int32)), .val (.int (Int32.ofNat mm)), .val (.ref o1), .val (.ref o2), .unset] [(.long (q1 &&& q3))])) _
  refine XS.lconst X0.here hx rfl (hb hby at_99) ?_
  show Steps p.tables e below (T0.setTop (mkF m 100 #[.val (.long q1), .second, .val (.long q2), .second, .val (.long q3), .second, .val (.long q4), .second, .val (.long q5), .second, .val (.int p6), .val (.int (2 : Int32)), .val (.int (Int32.ofNat mm)), .val (.ref o1), .val (.ref o2), .unset] [(.long (0 : Int64)), (.long (q1 &&& q3))])) _
  refine XS.lcmp X0.here hx rfl (hb hby at_100) rfl ?_
  show Steps p.tables e below (T0.setTop (mkF m 101 #[.val (.long q1), .second, .val (.long q2), .second, .val (.long q3), .second, .val (.long q4), .second, .val (.long q5), .second, .val (.int p6), .val (.int (2 : Int32)), .val (.int (Int32.ofNat mm)), .val (.ref o1), .val (.ref o2), .unset] [(.int (lcmpW (q1 &&& q3) (0 : Int64)))])) _
  refine XS.ifNo X0.here hx rfl (hb hby at_101) rfl ((if0 _ _).trans (teq h0c).2) ?_
  show Steps p.tables e below (T0.setTop (mkF m 104 #[.val (.long q1), .second, .val (.long q2), .second, .val (.long q3), .second, .val (.long q4), .second, .val (.long q5), .second, .val (.int p6), .val (.int (2 : Int32)), .val (.int (Int32.ofNat mm)), .val (.ref o1), .val (.ref o2), .unset] [])) _
  refine XS.iload X0.here hx rfl (hb hby at_104) rfl ?_
  show Steps p.tables e below (T0.setTop (mkF m 106 #[.val (.long q1), .second, .val (.long q2), .second, .val (.long q3), .second, .val (.long q4), .second, .val (.long q5), .second, .val (.int p6), .val (.int (2 : Int32)), .val (.int (Int32.ofNat mm)), .val (.ref o1), .val (.ref o2), .unset] [(.int (2 : Int32))])) _
  refine XS.iconst X0.here hx rfl (hb hby at_106) ?_
  show Steps p.tables e below (T0.setTop (mkF m 107 #[.val (.long q1), .second, .val (.long q2), .second, .val (.long q3), .second, .val (.long q4), .second, .val (.long q5), .second, .val (.int p6), .val (.int (2 : Int32)), .val (.int (Int32.ofNat mm)), .val (.ref o1), .val (.ref o2), .unset] [(.int (2 : Int32)), (.int (2 : Int32))])) _
  refine XS.icmpNo X0.here hx rfl (hb hby at_107) rfl (flt (by decide)).1 ?_
  show Steps p.tables e below (T0.setTop (mkF m 110 #[.val (.long q1), .second, .val (.long q2), .second, .val (.long q3), .second, .val (.long q4), .second, .val (.long q5), .second, .val (.int p6), .val (.int (2 : Int32)), .val (.int (Int32.ofNat mm)), .val (.ref o1), .val (.ref o2), .unset] [])) _
  refine XS.lloadN X0.here hx rfl (hb hby at_110) rfl ?_
  show Steps p.tables e below (T0.setTop (mkF m 111 #[.val (.long q1), .second, .val (.long q2), .second, .val (.long q3), .second, .val (.long q4), .second, .val (.long q5), .second, .val (.int p6), .val (.int (2 : Int32)), .val (.int (Int32.ofNat mm)), .val (.ref o1), .val (.ref o2), .unset] [(.long q2)])) _
  refine XS.lload X0.here hx rfl (hb hby at_111) rfl ?_
  show Steps p.tables e below (T0.setTop (mkF m 113 #[.val (.long q1), .second, .val (.long q2), .second, .val (.long q3), .second, .val (.long q4), .second, .val (.long q5), .second, .val (.int p6), .val (.int (2 : Int32)), .val (.int (Int32.ofNat mm)), .val (.ref o1), .val (.ref o2), .unset] [(.long q4), (.long q2)])) _
  refine XS.land X0.here hx rfl (hb hby at_113) rfl ?_
  show Steps p.tables e below (T0.setTop (mkF m 114 #[.val (.long q1), .second, .val (.long q2), .second, .val (.long q3), .second, .val (.long q4), .second, .val (.long q5), .second, .val (.int p6), .val (.int (2 : Int32)), .val (.int (Int32.ofNat mm)), .val (.ref o1), .val (.ref o2), .unset] [(.long (q2 &&& q4))])) _
  refine XS.lconst X0.here hx rfl (hb hby at_114) ?_
  show Steps p.tables e below (T0.setTop (mkF m 115 #[.val (.long q1), .second, .val (.long q2), .second, .val (.long q3), .second, .val (.long q4), .second, .val (.long q5), .second, .val (.int p6), .val (.int (2 : Int32)), .val (.int (Int32.ofNat mm)), .val (.ref o1), .val (.ref o2), .unset] [(.long (0 : Int64)), (.long (q2 &&& q4))])) _
  refine XS.lcmp X0.here hx rfl (hb hby at_115) rfl ?_
  show Steps p.tables e below (T0.setTop (mkF m 116 #[.val (.long q1), .second, .val (.long q2), .second, .val (.long q3), .second, .val (.long q4), .second, .val (.long q5), .second, .val (.int p6), .val (.int (2 : Int32)), .val (.int (Int32.ofNat mm)), .val (.ref o1), .val (.ref o2), .unset] [(.int (lcmpW (q2 &&& q4) (0 : Int64)))])) _
  refine XS.ifYes X0.here hx rfl (pc0 := 116) (pc' := 123) rfl (hb hby at_116) rfl ((if0 _ _).trans (teq h1c).1) (by decide) (by decide) ?_
  show Steps p.tables e below (T0.setTop (mkF m 123 #[.val (.long q1), .second, .val (.long q2), .second, .val (.long q3), .second, .val (.long q4), .second, .val (.long q5), .second, .val (.int p6), .val (.int (2 : Int32)), .val (.int (Int32.ofNat mm)), .val (.ref o1), .val (.ref o2), .unset] [])) _
  refine XS.iconst X0.here hx rfl (hb hby at_123) ?_
  show Steps p.tables e below (T0.setTop (mkF m 124 #[.val (.long q1), .second, .val (.long q2), .second, .val (.long q3), .second, .val (.long q4), .second, .val (.long q5), .second, .val (.int p6), .val (.int (2 : Int32)), .val (.int (Int32.ofNat mm)), .val (.ref o1), .val (.ref o2), .unset] [(.int (0 : Int32))])) _
  refine XS.istore X0.here hx rfl (hb hby at_124) rfl (l' := #[.val (.long q1), .second, .val (.long q2), .second, .val (.long q3), .second, .val (.long q4), .second, .val (.long q5), .second, .val (.int p6), .val (.int (2 : Int32)), .val (.int (Int32.ofNat mm)), .val (.ref o1), .val (.ref o2), .val (.int (0 : Int32))]) rfl ?_
  exact kt
set_option maxRecDepth 65536 in
set_option maxHeartbeats 40000000 in
theorem expd {p : Program} {l : Launch} {e : Env} {R : Room} {s : State} {m : MethodId} {args : Array Value} {below : List Frame} {meth : Method} {c : Code} {T0 : State} {locs : List Loc} {cells slots : Nat} {Z : State} {a0 : Array Value} {h0 : Heap} (q1 q2 q3 q4 q5 : Int64) (p6 : Int32) (n mm : Nat) (o1 o2 : Addr) (hn : n ≤ 2)
    (X0 : Stand p l e R s m args below meth c T0 locs cells slots) (hx : p.tables.exec = Jvm.exec) (hZ : Z.Warmed39 s.vm) (hw : ∀ d ∈ tables_1, d.before a0 Z = true) (hby : c.code = code) (hown : s.vm.findClass "com/example/sidetrip/sidetrip/dispatch/BitsIntersectsPinLaw" = some m.cls) (e0 : T0.heap = h0) {target : State} (kt : Steps p.tables e below (T0.setTop (mkF m 126 #[.val (.long q1), .second, .val (.long q2), .second, .val (.long q3), .second, .val (.long q4), .second, .val (.long q5), .second, .val (.int p6), .val (.int (Int32.ofNat n)), .val (.int (Int32.ofNat mm)), .val (.ref o1), .val (.ref o2), .val (.int (own_r (own_hit (own_A q1 q2) (own_B q3 q4 q5) 0 n)))] [])) target) :
    Steps p.tables e below (T0.setTop (mkF m 89 #[.val (.long q1), .second, .val (.long q2), .second, .val (.long q3), .second, .val (.long q4), .second, .val (.long q5), .second, .val (.int p6), .val (.int (Int32.ofNat n)), .val (.int (Int32.ofNat mm)), .val (.ref o1), .val (.ref o2), .unset] [])) target := by
  rcases (by omega : n = 0 ∨ n = 1 ∨ n = 2) with rfl | rfl | rfl
  · exact ex0 q1 q2 q3 q4 q5 p6 mm o1 o2 X0 hx hZ hw hby hown e0 kt
  · by_cases h : q1 &&& q3 = 0
    · have q : own_hit (own_A q1 q2) (own_B q3 q4 q5) 0 1 = false := by simp [own_hit, own_A, own_B, h]
      rw [q] at kt
      exact ex1f q1 q2 q3 q4 q5 p6 mm o1 o2 X0 hx hZ hw hby hown e0 (own_leq h) kt
    · have q : own_hit (own_A q1 q2) (own_B q3 q4 q5) 0 1 = true := by simp [own_hit, own_A, own_B, h]
      rw [q] at kt
      exact ex1t q1 q2 q3 q4 q5 p6 mm o1 o2 X0 hx hZ hw hby hown e0 (own_lne h) kt
  · by_cases h : q1 &&& q3 = 0
    · by_cases h' : q2 &&& q4 = 0
      · have q : own_hit (own_A q1 q2) (own_B q3 q4 q5) 0 2 = false := by simp [own_hit, own_A, own_B, h, h']
        rw [q] at kt
        exact ex2ff q1 q2 q3 q4 q5 p6 mm o1 o2 X0 hx hZ hw hby hown e0 (own_leq h) (own_leq h') kt
      · have q : own_hit (own_A q1 q2) (own_B q3 q4 q5) 0 2 = true := by simp [own_hit, own_A, own_B, h, h']
        rw [q] at kt
        exact ex2ft q1 q2 q3 q4 q5 p6 mm o1 o2 X0 hx hZ hw hby hown e0 (own_leq h) (own_lne h') kt
    · have q : own_hit (own_A q1 q2) (own_B q3 q4 q5) 0 2 = true := by simp [own_hit, own_A, own_B, h]
      rw [q] at kt
      exact ex2t q1 q2 q3 q4 q5 p6 mm o1 o2 X0 hx hZ hw hby hown e0 (own_lne h) kt
theorem pn_0 : plainName "com/example/sidetrip/sidetrip/dispatch/BitsIntersectsPinLaw" = true := by first | (simp [plainName, overriddenIn]; done) | decide +kernel
theorem pd_0 : parseMethodDescriptor "([J[J)Z" = some ⟨[(.array .long), (.array .long)], some .boolean⟩ := by decide +kernel
theorem ef_0 (m : MethodId) (x0 : Int64) (x1 : Int64) (x2 : Int64) (x3 : Int64) (x4 : Int64) (x5 : Int32) : entryFrame m #[(.long x0), (.long x1), (.long x2), (.long x3), (.long x4), (.int x5)] maxLocals = mkF m 0 #[.val (.long x0), .second, .val (.long x1), .second, .val (.long x2), .second, .val (.long x3), .second, .val (.long x4), .second, .val (.int x5), .unset, .unset, .unset, .unset, .unset] [] := by first | (simp [entryFrame, mkF, argsToLocals, Value.category, maxLocals]; done) | rfl
def Q0 (n0 : Nat) (v : Option Value) (L : List Loc) : Prop := v = some (.int (1 : Int32)) ∧ Fr n0 L
set_option maxRecDepth 65536 in
set_option maxHeartbeats 40000000 in
theorem rm0 (l : Launch) (Z : State) (a0 : Array Value) (hw : ∀ d ∈ tables_1, d.before a0 Z = true) (ws : List Jvm.Cond) (q1 q2 q3 q4 q5 : Int64) (p6 : Int32) (h0 : Heap) (n0 : Nat) (Z0 : n0 ≤ h0.size) :
    MetFree l x (head1 (Jvm.Cond.code x code maxLocals ret :: ws) room_1) (fun a U => a = #[(.long q1), (.long q2), (.long q3), (.long q4), (.long q5), (.int p6)] ∧ Z.Warmed39 U.vm ∧ U.heap = h0) (fun _ _ _ _ _ => True) (fun _ U o U' => ∃ v L, o = .returned v ∧ Q0 n0 v L ∧ FrameEnd U o U' L room_1.cells room_1.slots) := by
  refine MetFree.of_bodySF (plainFor_of_name pn_0) hisR ?_
  intro p e s m args below meth c s₁ Bd hml0 hP hK
  obtain ⟨rfl, hZ, hh⟩ := hP
  have hx := Bd.exec
  have hby := Bd.bytes
  have hml : c.maxLocals = 16 := hml0
  have hown : s.vm.findClass "com/example/sidetrip/sidetrip/dispatch/BitsIntersectsPinLaw" = some m.cls := findClass_of_methodNamed Bd.named
  have X0 : Stand p l e room_1 s m #[(.long q1), (.long q2), (.long q3), (.long q4), (.long q5), (.int p6)] below meth c s₁ [] 0 0 := Stand.of_body Bd
  have e0 : s₁.heap = h0 := by rw [← hh, Bd.state]; rfl
  have N0 := Fr.nil n0
  have pre0 : ∀ t, Steps p.tables e below (s₁.setTop (mkF m 0 #[.val (.long q1), .second, .val (.long q2), .second, .val (.long q3), .second, .val (.long q4), .second, .val (.long q5), .second, .val (.int p6), .unset, .unset, .unset, .unset, .unset] [])) t → Steps p.tables e below (s₁.setTop (entryFrame m #[(.long q1), (.long q2), (.long q3), (.long q4), (.long q5), (.int p6)] maxLocals)) t := fun t k => castTop (ef_0 m q1 q2 q3 q4 q5 p6) k
  obtain ⟨n, hn, en⟩ := own_n p6
  obtain ⟨mm, hmm, em⟩ := own_m n (XT.ushr p6 (2 : Int32))
  obtain ⟨T1, h1, o1, o2, L1, X1, e1, N1, Z1, V1, V2, st1⟩ := fill q1 q2 q3 q4 q5 p6 n mm hn hmm X0 hx hZ hw hby hown e0 Z0 N0
  obtain ⟨_, _, ⟨T2, L2, k2, n2⟩, -, X2, ⟨Lc2, hQ2, l2, y2, z2⟩, st2⟩ := Jvm.LawKit.callS X1 hx (y := (⟨"com/example/sidetrip/sidetrip/dispatch/Bits", "intersects", "([J[J)Z"⟩ : MethodName)) hown (mvT hZ (hw _ (List.mem_of_getElem? (i := 1) rfl))) (mvT hZ (hw _ (List.mem_of_getElem? (i := 2) rfl))) (mvT hZ (hw _ (List.mem_of_getElem? (i := 3) rfl))) (mvT hZ (hw _ (List.mem_of_getElem? (i := 4) rfl))) (by decide) (backOf (W := 0) (rm1 l Z a0 hw [] o1 o2 (own_A q1 q2) (own_B q3 q4 q5) n mm h1 n0 Z1 V1 V2 (by omega) (by omega)) hZ (hw _ (List.mem_of_getElem? (i := 4) rfl)) (hw _ (List.mem_of_getElem? (i := 3) rfl)) (by decide) (by decide)) (g := (mkF m 130 #[.val (.long q1), .second, .val (.long q2), .second, .val (.long q3), .second, .val (.long q4), .second, .val (.long q5), .second, .val (.int p6), .val (.int (Int32.ofNat n)), .val (.int (Int32.ofNat mm)), .val (.ref o1), .val (.ref o2), .val (.int (own_r (own_hit (own_A q1 q2) (own_B q3 q4 q5) 0 n)))] [(.ref o2), (.ref o1)])) rfl (by rw [hml]; rfl) (argsL := [(.ref o1), (.ref o2)]) (rest := []) (lenOf pd_0 rfl) rfl (by show 2 * 0 + _ ≤ _; exact Nat.le_of_eq rfl) (hb hby at_130) (fun _ _ => ⟨rfl, e1, (by decide : 2 + 0 ≤ _), (by decide : 5 + 0 ≤ _)⟩)
  dsimp only [Pt.U, Pt.locs, Pt.cells, Pt.slots] at X2 l2 y2 z2 st2 hQ2
  subst l2 y2 z2
  obtain ⟨rfl, N2q, e2⟩ := hQ2
  have N2 := Fr.app N1 N2q
  obtain ⟨fs, hr, hrun, hended, hW, hsame⟩ := X2.leave (v := some (.int (1 : Int32))) (fun h => by rw [Bd.returns] at h; cases h)
  refine ⟨_, _, pre0 _ ?_, hrun, hended, _, _, rfl, ?_, ⟨_, rfl⟩, hW, hsame.mono (by decide) (by decide)⟩
  · refine sg0 q1 q2 q3 q4 q5 p6 X0 hx hZ hw hby hown e0 ?_
    rw [en, em]
    refine st1 _ ?_
    refine expd q1 q2 q3 q4 q5 p6 n mm o1 o2 hn X1 hx hZ hw hby hown e1 ?_
    show Steps p.tables e below (T1.setTop (mkF m 126 #[.val (.long q1), .second, .val (.long q2), .second, .val (.long q3), .second, .val (.long q4), .second, .val (.long q5), .second, .val (.int p6), .val (.int (Int32.ofNat n)), .val (.int (Int32.ofNat mm)), .val (.ref o1), .val (.ref o2), .val (.int (own_r (own_hit (own_A q1 q2) (own_B q3 q4 q5) 0 n)))] [])) _
    refine XS.aload X1.here hx rfl (hb hby at_126) rfl rfl ?_
    show Steps p.tables e below (T1.setTop (mkF m 128 #[.val (.long q1), .second, .val (.long q2), .second, .val (.long q3), .second, .val (.long q4), .second, .val (.long q5), .second, .val (.int p6), .val (.int (Int32.ofNat n)), .val (.int (Int32.ofNat mm)), .val (.ref o1), .val (.ref o2), .val (.int (own_r (own_hit (own_A q1 q2) (own_B q3 q4 q5) 0 n)))] [(.ref o1)])) _
    refine XS.aload X1.here hx rfl (hb hby at_128) rfl rfl ?_
    show Steps p.tables e below (T1.setTop (mkF m 130 #[.val (.long q1), .second, .val (.long q2), .second, .val (.long q3), .second, .val (.long q4), .second, .val (.long q5), .second, .val (.int p6), .val (.int (Int32.ofNat n)), .val (.int (Int32.ofNat mm)), .val (.ref o1), .val (.ref o2), .val (.int (own_r (own_hit (own_A q1 q2) (own_B q3 q4 q5) 0 n)))] [(.ref o2), (.ref o1)])) _
    refine st2 _ ?_
    show Steps p.tables e below (T2.setTop (mkF m 133 #[.val (.long q1), .second, .val (.long q2), .second, .val (.long q3), .second, .val (.long q4), .second, .val (.long q5), .second, .val (.int p6), .val (.int (Int32.ofNat n)), .val (.int (Int32.ofNat mm)), .val (.ref o1), .val (.ref o2), .val (.int (own_r (own_hit (own_A q1 q2) (own_B q3 q4 q5) 0 n)))] [(.int (own_r (own_hit (own_A q1 q2) (own_B q3 q4 q5) 0 n)))])) _
    refine XS.iload X2.here hx rfl (hb hby at_133) rfl ?_
    show Steps p.tables e below (T2.setTop (mkF m 135 #[.val (.long q1), .second, .val (.long q2), .second, .val (.long q3), .second, .val (.long q4), .second, .val (.long q5), .second, .val (.int p6), .val (.int (Int32.ofNat n)), .val (.int (Int32.ofNat mm)), .val (.ref o1), .val (.ref o2), .val (.int (own_r (own_hit (own_A q1 q2) (own_B q3 q4 q5) 0 n)))] [(.int (own_r (own_hit (own_A q1 q2) (own_B q3 q4 q5) 0 n))), (.int (own_r (own_hit (own_A q1 q2) (own_B q3 q4 q5) 0 n)))])) _
    refine XS.icmpNo X2.here hx rfl (hb hby at_135) rfl (teq (rfl : (own_r (own_hit (own_A q1 q2) (own_B q3 q4 q5) 0 n)) = (own_r (own_hit (own_A q1 q2) (own_B q3 q4 q5) 0 n)))).2 ?_
    show Steps p.tables e below (T2.setTop (mkF m 138 #[.val (.long q1), .second, .val (.long q2), .second, .val (.long q3), .second, .val (.long q4), .second, .val (.long q5), .second, .val (.int p6), .val (.int (Int32.ofNat n)), .val (.int (Int32.ofNat mm)), .val (.ref o1), .val (.ref o2), .val (.int (own_r (own_hit (own_A q1 q2) (own_B q3 q4 q5) 0 n)))] [])) _
    refine XS.iconst X2.here hx rfl (hb hby at_138) ?_
    show Steps p.tables e below (T2.setTop (mkF m 139 #[.val (.long q1), .second, .val (.long q2), .second, .val (.long q3), .second, .val (.long q4), .second, .val (.long q5), .second, .val (.int p6), .val (.int (Int32.ofNat n)), .val (.int (Int32.ofNat mm)), .val (.ref o1), .val (.ref o2), .val (.int (own_r (own_hit (own_A q1 q2) (own_B q3 q4 q5) 0 n)))] [(.int (1 : Int32))])) _
    refine XS.goto X2.here hx rfl (pc0 := 139) (pc' := 143) rfl (hb hby at_139) (by decide) (by decide) ?_
    show Steps p.tables e below (T2.setTop (mkF m 143 #[.val (.long q1), .second, .val (.long q2), .second, .val (.long q3), .second, .val (.long q4), .second, .val (.long q5), .second, .val (.int p6), .val (.int (Int32.ofNat n)), .val (.int (Int32.ofNat mm)), .val (.ref o1), .val (.ref o2), .val (.int (own_r (own_hit (own_A q1 q2) (own_B q3 q4 q5) 0 n)))] [(.int (1 : Int32))])) _
    exact retN X2 hx (t := .boolean) Bd.returns (by simp) (hb hby at_143) hr
  · exact ⟨rfl, N2⟩
set_option maxRecDepth 65536 in
set_option maxHeartbeats 40000000 in
theorem comes_1 {Post : Tables → Env → Array Value → State → Outcome → State → Prop} (hpost : ∀ tb e args s v u, (limb_1_1.after args s (.returned v) u = true ∧ limb_1_2.after args s (.returned v) u = true ∧ True) → FrameEnd s (.returned v) u (Jvm.fieldLocs frame_1_writes args s ++ Jvm.arrayLocs frame_1_arrays args s ++ Jvm.staticLocs frame_1_statics s) 16 128 → Post tb e args s (.returned v) u) :
    ArmFor flags0 classFile x code maxLocals ret World_1 tables_1 room_1 Calls_1 rest_1 Pre_1 Post := by
  intro l hfl _ _ p e ha hc hk s m args below hf hA hF happ hP
  obtain ⟨hcalls, hrest, hpre⟩ := hP
  obtain ⟨-, -, -, hnamed, -, -, -, hat⟩ := (Spec.applies_iff hf).mp happ
  obtain ⟨hg, hn⟩ := and_e (Cond.before_iff.mp (show (Jvm.Cond.and given_1 narrow_1).before args s = true from hpre))
  obtain ⟨g1, g2⟩ := and_e hg
  obtain ⟨k0, g3⟩ := and_e g2
  obtain ⟨k1, g4⟩ := and_e g3
  obtain ⟨k2, g5⟩ := and_e g4
  obtain ⟨k3, g6⟩ := and_e g5
  obtain ⟨k4, k5⟩ := and_e g6
  obtain ⟨w0, w1, w2, w3, w4, w5, rfl⟩ : ∃ w0 w1 w2 w3 w4 w5 : Value, args = #[w0, w1, w2, w3, w4, w5] := by
    have hs : args.size = 6 := by simpa [Cond.value, given_1] using g1
    obtain ⟨L⟩ := args
    match L, hs with
    | [w0, w1, w2, w3, w4, w5], _ => exact ⟨w0, w1, w2, w3, w4, w5, rfl⟩
  have hw := fun d (hd : d ∈ tables_1) => atoms_spec (ws := Jvm.Cond.code x code maxLocals ret :: tables_1) hat d (List.mem_cons_of_mem _ hd)
  obtain ⟨i0, ei0⟩ := isL_v k0
  obtain rfl : w0 = (.long i0) := Option.some.inj ei0
  obtain ⟨i1, ei1⟩ := isL_v k1
  obtain rfl : w1 = (.long i1) := Option.some.inj ei1
  obtain ⟨i2, ei2⟩ := isL_v k2
  obtain rfl : w2 = (.long i2) := Option.some.inj ei2
  obtain ⟨i3, ei3⟩ := isL_v k3
  obtain rfl : w3 = (.long i3) := Option.some.inj ei3
  obtain ⟨i4, ei4⟩ := isL_v k4
  obtain rfl : w4 = (.long i4) := Option.some.inj ei4
  obtain ⟨i5, ei5⟩ := is_v k5
  obtain rfl : w5 = (.int i5) := Option.some.inj ei5
  obtain ⟨n, o, h1, h2, h3, _, L, rfl, ⟨rfl, N⟩, hq⟩ := rm0 l s _ hw tables_1 i0 i1 i2 i3 i4 i5 s.heap s.heap.size (Nat.le_refl _) p e ha hc hk s m _ below hf ((Spec.applies_iff_loose hf).mp happ).1 ⟨rfl, State.Warmed39.refl s, rfl⟩ trivial
  refine ⟨n, _, h1, h2, h3, hpost _ _ _ _ _ _ ⟨Cond.after_iff.mpr rfl, Cond.after_iff.mpr (eq_i res_at (Term.int_eval (1)) rfl), trivial⟩ ⟨hq.1, hq.2.1, (hq.2.2.sift fun y hy => Or.inr (N y hy)).mono (by decide) (by decide)⟩⟩
theorem main_1_1 : Claimed_1_1 := comes_1 fun _ _ _ _ _ _ h hF => ⟨h.1, hF⟩
theorem main_1_2 : Claimed_1_2 := comes_1 fun _ _ _ _ _ _ h hF => ⟨h.2.1, hF⟩
end Jvm.Pilot.@@N@@
namespace Jvm.Pilot.@@N@@
open Jvm Jvm.ClassFile Sem Op Lib Jvm.Free Jvm.Stand Jvm.Pilot.@@N@@.Jvm.D
/-! MADE BY PROGRAM (witnessworld.py) out of the Statement's table words and the real class files: 10 classes; the members and pool entries that the words name. The judged class is class 1, her method 1. -/
namespace start1
open Jvm.ClassFile
def u (s : String) : CpInfo := .utf8 (stringToUtf16 s)
/-- a pool by its gaps: so many unusable entries, then the entry; so many at the end -/
def gap : Nat → List CpInfo → List CpInfo
  | 0, r => r
  | n + 1, r => .unusable :: gap n r
def poolList (es : List (Nat × CpInfo)) (last : Nat) : List CpInfo := es.foldr (fun e r => gap e.1 (e.2 :: r)) (gap last [])
def pool (es : List (Nat × CpInfo)) (last : Nat) : Array CpInfo := ⟨poolList es last⟩
def fileOf (pool : Array CpInfo) (this : Nat) (attrs : Array Attribute := #[]) (ms : Array MethodInfo := #[]) (fl : Nat := 33) (sup : Nat := 0) (ifs : Array Nat := #[]) (fds : Array FieldInfo := #[]) : ClassFile where
  minorVersion := 0
  majorVersion := 65
  constantPool := pool
  accessFlags := fl
  thisClass := this
  superClass := sup
  interfaces := ifs
  fields := fds
  methods := ms
  attributes := attrs
def plain (name : String) (sup : Option ClassId) : Class where
  name := name
  kind := .ordinary
  loader := none
  accessFlags := 33
  super := sup
  interfaces := #[]
  cf := none
  fields := #[]
  methods := #[]
  instanceTypes := #[]
  staticTypes := #[]
  resolved := #[]
  callSites := []
  init := .initialized
  statics := none
  mirror := none

def pool0 : Array CpInfo := pool [(5, u "<init>"), (0, u "()V"), (1, .class_ 10), (1, u "java/lang/Object")] 113

def k0m0 : Method := { name := "<init>", desc := "()V", sig := { parameters := [], returnType := none }, accessFlags := 1, code := none }
/-- java/lang/Object -/
def k0 : Class := { plain "java/lang/Object" none with
  accessFlags := 33
  interfaces := #[]
  cf := some (fileOf pool0 8 #[] #[{ accessFlags := 1, nameIndex := 5, descriptorIndex := 6, attributes := #[] }] 33 0 #[] #[])
  fields := #[]
  methods := #[k0m0]
  instanceTypes := #[]
  staticTypes := #[]
  resolved := Array.replicate 124 none
  statics := none }

def pool1 : Array CpInfo := pool [(2, .class_ 4), (1, u "java/lang/Object"), (0, u "<init>"), (0, u "()V"), (0, .methodref 8 9), (0, .class_ 10), (0, .nameAndType 11 12), (0, u "com/example/sidetrip/sidetrip/dispatch/Bits"), (0, u "intersects"), (0, u "([J[J)Z"), (0, .class_ 14), (0, u "com/example/sidetrip/sidetrip/dispatch/BitsIntersectsPinLaw"), (2, u "law"), (0, u "(JJJJJI)Z")] 5

def k1m0 : Method := { name := "<init>", desc := "()V", sig := { parameters := [], returnType := none }, accessFlags := 1, code := none }
def k1c1 : Code := { maxStack := 4, maxLocals := 16, code := code, exceptionTable := #[], attributes := #[] }
def k1m1 : Method := { name := "law", desc := "(JJJJJI)Z", sig := { parameters := [.long, .long, .long, .long, .long, .int], returnType := some .boolean }, accessFlags := 9, code := some k1c1 }
/-- com/example/sidetrip/sidetrip/dispatch/BitsIntersectsPinLaw -/
def k1 : Class := { plain "com/example/sidetrip/sidetrip/dispatch/BitsIntersectsPinLaw" (some 0) with
  accessFlags := 49
  interfaces := #[]
  cf := some (fileOf pool1 13 #[] #[{ accessFlags := 1, nameIndex := 5, descriptorIndex := 6, attributes := #[] }, { accessFlags := 9, nameIndex := 17, descriptorIndex := 18, attributes := #[] }] 49 2 #[] #[])
  fields := #[]
  methods := #[k1m0, k1m1]
  instanceTypes := #[]
  staticTypes := #[]
  resolved := Array.replicate 24 none
  statics := none }

def pool2 : Array CpInfo := pool [(2, .class_ 4), (1, u "java/lang/Object"), (0, u "<init>"), (0, u "()V"), (0, .class_ 8), (0, u "java/lang/Record")] 13

def k2m0 : Method := { name := "<init>", desc := "()V", sig := { parameters := [], returnType := none }, accessFlags := 4, code := none }
/-- java/lang/Record -/
def k2 : Class := { plain "java/lang/Record" (some 0) with
  accessFlags := 1057
  interfaces := #[]
  cf := some (fileOf pool2 7 #[] #[{ accessFlags := 4, nameIndex := 5, descriptorIndex := 6, attributes := #[] }] 1057 2 #[] #[])
  fields := #[]
  methods := #[k2m0]
  instanceTypes := #[]
  staticTypes := #[]
  resolved := Array.replicate 22 none
  statics := none }

def pool3 : Array CpInfo := pool [(2, .class_ 4), (1, u "java/lang/Record"), (3, .class_ 10), (1, u "com/example/sidetrip/sidetrip/dispatch/Bits"), (0, u "words"), (0, u "[J"), (22, u "([J[J)Z"), (20, u "intersects")] 8

def k3c0 : Code := { maxStack := 4, maxLocals := 3, code := prog_15_method_8_code, exceptionTable := #[], attributes := #[] }
def k3m0 : Method := { name := "intersects", desc := "([J[J)Z", sig := { parameters := [(.array .long), (.array .long)], returnType := some .boolean }, accessFlags := 8, code := some k3c0 }
/-- com/example/sidetrip/sidetrip/dispatch/Bits -/
def k3 : Class := { plain "com/example/sidetrip/sidetrip/dispatch/Bits" (some 2) with
  accessFlags := 48
  interfaces := #[]
  cf := some (fileOf pool3 8 #[] #[{ accessFlags := 8, nameIndex := 56, descriptorIndex := 35, attributes := #[] }] 48 2 #[] #[{ accessFlags := 18, nameIndex := 11, descriptorIndex := 12, attributes := #[] }])
  fields := #[{ name := "words", type := (.array .long), accessFlags := 18, slot := 0, constantValue := 0 }]
  methods := #[k3m0]
  instanceTypes := #[(.array .long)]
  staticTypes := #[]
  resolved := Array.replicate 65 none
  statics := none }

def pool4 : Array CpInfo := pool [(1, u "java/lang/Cloneable"), (0, .class_ 1), (0, u "java/lang/Object"), (0, .class_ 3)] 3

/-- java/lang/Cloneable -/
def k4 : Class := { plain "java/lang/Cloneable" (some 0) with
  accessFlags := 1537
  interfaces := #[]
  cf := some (fileOf pool4 2 #[] #[] 1537 4 #[] #[])
  fields := #[]
  methods := #[]
  instanceTypes := #[]
  staticTypes := #[]
  resolved := Array.replicate 8 none
  statics := none }

def pool5 : Array CpInfo := pool [(1, u "java/io/Serializable"), (0, .class_ 1), (0, u "java/lang/Object"), (0, .class_ 3)] 3

/-- java/io/Serializable -/
def k5 : Class := { plain "java/io/Serializable" (some 0) with
  accessFlags := 1537
  interfaces := #[]
  cf := some (fileOf pool5 2 #[] #[] 1537 4 #[] #[])
  fields := #[]
  methods := #[]
  instanceTypes := #[]
  staticTypes := #[]
  resolved := Array.replicate 8 none
  statics := none }

/-- the primitive byte -/
def k6 : Class := { plain "byte" none with kind := .primitive 'B', accessFlags := 0x411 }
/-- [B -/
def k7 : Class := { plain "[B" (some 0) with kind := .array 6 .byte, interfaces := #[4, 5], accessFlags := 1041 }

/-- the primitive long -/
def k8 : Class := { plain "long" none with kind := .primitive 'J', accessFlags := 0x411 }
/-- [J -/
def k9 : Class := { plain "[J" (some 0) with kind := .array 8 .long, interfaces := #[4, 5], accessFlags := 1041 }

def heap : Heap := #[]
def classes : Array Class := #[k0, k1, k2, k3, k4, k5, k6, k7, k8, k9]
def interned : List (Array UInt16 × Addr) := []
def slotsUsed : Nat := 0
def theMethod : MethodId := ⟨1, 1⟩
def args0 : Array Value := #[.long 5, .long 6, .long 7, .long 8, .long 9, .int 6]
def aboutOver (below : List Frame) : State where
  vm := { classes := classes, interned := interned.toArray }
  heap := heap
  slotsUsed := slotsUsed
  threads := #[{ frames := .invoking theMethod args0 :: below }]
def below0 : List Frame := [.native { method := ⟨0, 0⟩, args := #[] }]
def about1 : State := aboutOver below0
def p0 : Program := .bare "" "" ""
def e0 : Env := launch0.env 0 0 0
theorem w_frames : about1.frames = Frame.invoking theMethod args0 :: below0 := rfl
set_option maxRecDepth 65536 in
theorem w_args : argsFit about1.vm theMethod args0 = true := by decide +kernel
set_option maxRecDepth 65536 in
theorem w_heap : heapFits about1 = true := by decide +kernel
set_option maxRecDepth 65536 in
theorem w_runnable : about1.curStatus? = some .runnable := by decide +kernel
set_option maxRecDepth 65536 in
theorem w_alone : about1.alone = true := by decide +kernel
set_option maxRecDepth 65536 in
theorem w_named : about1.methodNamed? x = some theMethod := by decide +kernel
set_option maxRecDepth 65536 in
theorem w_hears : about1.hears theMethod below0 = true := by decide +kernel
set_option maxRecDepth 65536 in
theorem w_ripe : about1.ripe theMethod args0 below0 = true := by decide +kernel
theorem w_running : about1.status = .running := rfl
set_option maxRecDepth 65536 in
theorem w_room : about1.hasRoom e0.platform room_1 = true :=
  launch0.hasRoom_least _ room_1 (by decide +kernel) (by decide +kernel) (by decide +kernel) (by decide +kernel) (by decide +kernel) (by decide +kernel)
theorem allAtoms_all (ts : List Jvm.Cond) (a : Array Jvm.Value) (st : Jvm.State) : (allAtoms ts).before a st = ts.all (fun c => c.before a st) := by
  induction ts with
  | nil => rfl
  | cons c t ih =>
    show (Jvm.Cond.and c (allAtoms t)).before a st = _
    rw [Jvm.Cond.before_and, ih, List.all_cons]
def words1 : List Jvm.Cond := Jvm.Cond.code x code maxLocals ret :: tables_1
/-- a 'code' word, met by the world's own term for the bytes: nothing is compared byte by byte -/
theorem code_word {y : MethodName} {bytes : ByteArray} {mx : Nat} {rt : Option FieldType} {a : Array Value} {s : State} {m : MethodId} {meth : Method} {c : Code} (h1 : s.methodNamed? y = some m) (h2 : s.vm.method? m = some meth) (h3 : meth.code = some c) (h4 : c.code = bytes)
    (h5 : (c.maxLocals == mx && c.exceptionTable.isEmpty && decide (c.maxStack ≤ mostOperands) && decide (meth.sig.returnType = rt) && !meth.locks && decide (parseMethodDescriptor y.desc = some meth.sig)) = true) : (Jvm.Cond.code y bytes mx rt).before a s = true := by
  simp only [Bool.and_eq_true, beq_iff_eq, Bool.not_eq_true', decide_eq_true_eq] at h5
  obtain ⟨⟨⟨⟨⟨g1, g2⟩, g3⟩, g4⟩, g5⟩, g6⟩ := h5
  simp [Cond.before, Cond.holds, Cond.value, h1, h2, h3, h4, g1, g2, g3, g4, g5, g6]
def isCode : Jvm.Cond → Bool
  | .code _ _ _ _ => true
  | _ => false
theorem all_split {L : List Jvm.Cond} {P : Jvm.Cond → Bool} (h1 : L.all (fun c => isCode c || P c) = true) (h2 : ∀ c ∈ L.filter isCode, P c = true) : L.all P = true := by
  refine List.all_eq_true.mpr fun c hc => ?_
  have h := List.all_eq_true.mp h1 c hc
  rcases Bool.eq_false_or_eq_true (isCode c) with hi | hi
  · exact h2 c (List.mem_filter.mpr ⟨hc, hi⟩)
  · simpa [hi] using h
set_option maxRecDepth 65536 in
theorem w_c0 : (Jvm.Cond.code x code maxLocals ret).before args0 about1 = true := code_word (m := ⟨1, 1⟩) (meth := k1m1) (c := k1c1) (by decide +kernel) rfl rfl rfl (by decide +kernel)
set_option maxRecDepth 65536 in
theorem w_c1 : (Jvm.Cond.code ({ cls := "com/example/sidetrip/sidetrip/dispatch/Bits", name := "intersects", desc := "([J[J)Z" } : Jvm.MethodName) prog_15_method_8_code (3 : Nat) (Option.some Jvm.ClassFile.FieldType.boolean)).before args0 about1 = true := code_word (m := ⟨3, 0⟩) (meth := k3m0) (c := k3c0) (by decide +kernel) rfl rfl rfl (by decide +kernel)
def codes1 : List Jvm.Cond := [Jvm.Cond.code x code maxLocals ret, Jvm.Cond.code ({ cls := "com/example/sidetrip/sidetrip/dispatch/Bits", name := "intersects", desc := "([J[J)Z" } : Jvm.MethodName) prog_15_method_8_code (3 : Nat) (Option.some Jvm.ClassFile.FieldType.boolean)]
set_option maxRecDepth 65536 in
theorem codes_eq : words1.filter isCode = codes1 := rfl
theorem w_codes : ∀ c ∈ words1.filter isCode, c.before args0 about1 = true := by
  rw [codes_eq]
  intro c hc
  simp only [codes1, List.mem_cons, List.not_mem_nil, or_false] at hc
  rcases hc with rfl | rfl
  · exact w_c0
  · exact w_c1
set_option maxRecDepth 65536 in
theorem w_t1 : words1.all (fun c => isCode c || c.before args0 about1) = true := by decide +kernel
theorem w_tables : (allAtoms (Jvm.Cond.code x code maxLocals ret :: tables_1)).before args0 about1 = true := by
  rw [allAtoms_all]
  show words1.all (fun c => c.before args0 about1) = true
  refine all_split ?_ w_codes
  rw [w_t1]
set_option maxRecDepth 65536 in
theorem w_case : (Jvm.Cond.and given_1 narrow_1).before args0 about1 = true := by decide +kernel
theorem w_applies : (headSpec (Jvm.Cond.code x code maxLocals ret :: tables_1) room_1).applies x e0.platform about1 = true :=
  (Spec.applies_iff w_frames).mpr ⟨w_running, w_runnable, w_alone, w_named, w_hears, w_ripe, w_room, w_tables⟩
theorem atStart : AtStart classFile x code maxLocals ret World_1 tables_1 room_1 Calls_1 rest_1 Pre_1 launch0 p0 e0 about1 theMethod args0 below0 :=
  ⟨lists_1, trivial, launch0.admits_env _ _ _, launch0.least_env, fairChoices_fair.cas, fairChoices_fair.clock, w_frames, w_args, w_heap, w_applies, trivial, trivial, w_case⟩
end start1
theorem witness_1 : WitnessClaimed_1 := ⟨start1.p0, start1.e0, start1.about1, start1.theMethod, start1.args0, start1.below0, start1.atStart⟩
end Jvm.Pilot.@@N@@
