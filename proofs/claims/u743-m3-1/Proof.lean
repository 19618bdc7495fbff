import JvmDerived
import JvmDerived.Pilot.@@N@@Statement
import JvmDerived.Pilot.@@N@@Code
set_option linter.unusedVariables false
set_option linter.unusedSimpArgs false
namespace Jvm.RoadKit
open Sem ClassFile Op Lib Jvm.Stand Jvm.Free Jvm.LawKit
section New
variable {p : Program} {l : Launch} {e : Env} {R : Room} {s : State} {m : MethodId} {args : Array Value} {below : List Frame} {meth : Method} {c : Code} {T : State} {locs : List Loc} {cells slots : Nat}
theorem retI (X : Stand p l e R s m args below meth c T locs cells slots) (hx : p.tables.exec = Jvm.exec) {pc : Nat} {Ls : Array Slot} {z : Int32} {rest : List Value} (hret : meth.sig.returnType = some .int) (hd : decode c.code pc = .ok (.ireturn, 1)) {fs : List Frame}
    (hl : ∀ (f : JFrame) (acts : List Action), f.method = m → f.locked = none → f.entered = [] → (doReturn e (T.setTop f) acts (some (.int z))).1 = T.setFrames fs) : Steps p.tables e below (T.setTop (mkF m pc Ls (.int z :: rest))) (T.setFrames fs) := by
  have hm' : T.vm.method? m = some meth := X.method'
  have hn : narrow .int (.int z) = .int z := rfl
  show Steps p.tables e below (T.setTop { method := m, pc := pc, locals := Ls, stack := _ :: rest, locked := none }) _
  jvm_step X.here [X.here.top, hx, hd, hm', hret, hn]
  first | (intro acts; rw [hl _ acts rfl rfl rfl]) | rw [hl _ _ rfl rfl rfl]
  exact Steps.refl _
end New
end Jvm.RoadKit
namespace Jvm.Pilot.@@N@@
open Jvm Jvm.ClassFile Sem Op Lib Jvm.Free Jvm.Stand Jvm.LawKit Jvm.RoadKit Bundle Jvm.Pilot.@@N@@.Jvm.D
def AF (Z : State) (h : Heap) (a : Addr) (ty : FieldType) (n : Nat) (f : Nat → Value) : Prop := ∃ c : Cell, Arr Z h a c ty ∧ c.slots.size = n ∧ ∀ j, j < n → c.slots[j]? = some (f j)
theorem AF.lt {Z : State} {h : Heap} {a : Addr} {ty : FieldType} {n : Nat} {f : Nat → Value} (F : AF Z h a ty n f) : a < h.size := by obtain ⟨c, A, -⟩ := F; exact A.lt
theorem AF.ext {Z : State} {h h' : Heap} {a : Addr} {ty : FieldType} {n : Nat} {f : Nat → Value} (F : AF Z h a ty n f) (E : Ext h h') : AF Z h' a ty n f := by obtain ⟨c, A, r⟩ := F; exact ⟨c, A.ext E, r⟩
theorem AF.other {Z : State} {h h' : Heap} {a b : Addr} {ty : FieldType} {n : Nat} {f : Nat → Value} {sl : Nat} {v : Value} (F : AF Z h b ty n f) (W : Wr h h' a sl v) (q : b ≠ a) : AF Z h' b ty n f := by obtain ⟨c, A, r⟩ := F; exact ⟨c, A.other W q, r⟩
theorem AF.keep {Z : State} {h h' : Heap} {a : Addr} {ty : FieldType} {n : Nat} {f : Nat → Value} {ws : List Addr} (F : AF Z h a ty n f) (K : Keep h h' ws) (q : a ∉ ws) : AF Z h' a ty n f := by obtain ⟨c, A, r⟩ := F; exact ⟨c, ⟨K.2.1 a c A.1 q, A.2⟩, r⟩
theorem AF.congr {Z : State} {h : Heap} {a : Addr} {ty : FieldType} {n : Nat} {f g : Nat → Value} (F : AF Z h a ty n f) (q : ∀ j, j < n → f j = g j) : AF Z h a ty n g := by obtain ⟨c, A, s, r⟩ := F; exact ⟨c, A, s, fun j hj => by rw [r j hj, q j hj]⟩
theorem AF.new {Z : State} {h : Heap} {a : Addr} {ty : FieldType} {n : Nat} {k : ClassId} {z : Int32} (A : Arr Z h a (newA k ty z) ty) (q : z.toNatClampNeg = n) : AF Z h a ty n (fun _ => defaultValue ty) := ⟨_, A, by rw [sz_new, q], fun j hj => by simp [newA, q, hj]⟩
theorem AF.set {Z : State} {h h' : Heap} {a : Addr} {ty : FieldType} {n : Nat} {f : Nat → Value} {i : Nat} {v : Value} (F : AF Z h a ty n f) (W : Wr h h' a i v) : AF Z h' a ty n (fun j => if j = i then v else f j) := by
  obtain ⟨c, A, s, r⟩ := F
  refine ⟨_, A.same W, by rw [sz_set]; exact s, fun j hj => ?_⟩
  by_cases q : j = i
  · subst q
    simp [Cell.setSlot, s, hj]
  · have q' : i ≠ j := fun z => q z.symm
    simp only [q, if_false]
    rw [← r j hj]
    simp [Cell.setSlot, Array.getElem?_setIfInBounds, q']
theorem own_keep {h h' : Heap} (q : h' = h) : Keep h h' [] := by subst q; exact Keep.refl _ _
def own_N (a b c : Int32) (j : Nat) : Int32 := if j = 0 then a else if j = 1 then b else c
def own_d (d0 d1 d2 : Nat) (j : Nat) : Nat := if j = 0 then d0 else if j = 1 then d1 else d2
def own_pick (a b c k : Int32) : Int32 := if k = 0 then a else if k = 1 then b else c
theorem own_lt {i n : Nat} (h : i < n) (hn : n < 2 ^ 31) : Int32.ofNat i < Int32.ofNat n := by
  rw [Int32.lt_iff_toInt_lt, toInt_of rfl (by omega), toInt_of rfl hn]; omega
theorem own_ge {i n : Nat} (h : n ≤ i) (hn : i < 2 ^ 31) : ¬ Int32.ofNat i < Int32.ofNat n := by
  rw [Int32.lt_iff_toInt_lt, toInt_of rfl (by omega), toInt_of rfl (by omega)]; omega
theorem own_nn {n : Nat} (hn : n < 2 ^ 31) : ¬ Int32.ofNat n < 0 := by
  rw [Int32.lt_iff_toInt_lt, toInt_of rfl hn, show (0 : Int32).toInt = 0 from rfl]; omega
theorem own_pk (a b c : Int32) {d : Nat} (h : d < 3) : own_N a b c d = own_pick a b c (Int32.ofNat d) := by
  rcases (by omega : d = 0 ∨ d = 1 ∨ d = 2) with rfl | rfl | rfl <;> rfl
theorem own_len (p : Int32) : ∃ n : Nat, n ≤ 3 ∧ (p &&& (3 : Int32)) = Int32.ofNat n := by
  have h1 := c_mask p 3 2 (by decide) (by decide)
  have h3 : (p &&& (3 : Int32)).toInt = 0 ∨ (p &&& (3 : Int32)).toInt = 1 ∨ (p &&& (3 : Int32)).toInt = 2 ∨ (p &&& (3 : Int32)).toInt = 3 := by omega
  rcases h3 with h | h | h | h
  · exact ⟨0, by omega, Int32.toInt_inj.mp h⟩
  · exact ⟨1, by omega, Int32.toInt_inj.mp h⟩
  · exact ⟨2, by omega, Int32.toInt_inj.mp h⟩
  · exact ⟨3, by omega, Int32.toInt_inj.mp h⟩
theorem own_ix (x : Int32) : ∃ d : Nat, d < 3 ∧ (x &&& (255 : Int32)) % (3 : Int32) = Int32.ofNat d := by
  have h1 := c_mask x 255 8 (by decide) (by decide)
  have h2 := (c_irem (x &&& 255) 3 3 rfl).1 (by rw [h1]; omega)
  have h3 : ((x &&& (255 : Int32)) % (3 : Int32)).toInt = 0 ∨ ((x &&& (255 : Int32)) % (3 : Int32)).toInt = 1 ∨ ((x &&& (255 : Int32)) % (3 : Int32)).toInt = 2 := by omega
  rcases h3 with h | h | h
  · exact ⟨0, by omega, Int32.toInt_inj.mp h⟩
  · exact ⟨1, by omega, Int32.toInt_inj.mp h⟩
  · exact ⟨2, by omega, Int32.toInt_inj.mp h⟩
theorem own_d3 {d0 d1 d2 : Nat} (h0 : d0 < 3) (h1 : d1 < 3) (h2 : d2 < 3) (j : Nat) : own_d d0 d1 d2 j < 3 := by unfold own_d; split <;> (try split) <;> assumption
theorem d1_7 : decode prog_9_method_3_code 7 = .ok (.iload_n 3, 1) := by decide +kernel
theorem d1_8 : decode prog_9_method_3_code 8 = .ok (.aload_n 2, 1) := by decide +kernel
theorem d1_9 : decode prog_9_method_3_code 9 = .ok (.arraylength, 1) := by decide +kernel
theorem d1_10 : decode prog_9_method_3_code 10 = .ok (.if_icmp .ge 17, 3) := by decide +kernel
theorem d1_13 : decode prog_9_method_3_code 13 = .ok (.aload_n 2, 1) := by decide +kernel
theorem d1_14 : decode prog_9_method_3_code 14 = .ok (.iload_n 3, 1) := by decide +kernel
theorem d1_15 : decode prog_9_method_3_code 15 = .ok (.aload_n 0, 1) := by decide +kernel
theorem d1_16 : decode prog_9_method_3_code 16 = .ok (.aload_n 1, 1) := by decide +kernel
theorem d1_17 : decode prog_9_method_3_code 17 = .ok (.iload_n 3, 1) := by decide +kernel
theorem d1_18 : decode prog_9_method_3_code 18 = .ok (.iaload, 1) := by decide +kernel
theorem d1_19 : decode prog_9_method_3_code 19 = .ok (.iaload, 1) := by decide +kernel
set_option maxRecDepth 65536 in
set_option maxHeartbeats 40000000 in
theorem tn1_a {p : Program} {l : Launch} {e : Env} {R : Room} {s : State} {m : MethodId} {args : Array Value} {below : List Frame} {meth : Method} {c : Code} {T0 : State} {locs : List Loc} {cells slots : Nat} {Z : State} {a0 : Array Value} {h0 : Heap} (o0 o1 o2 : Addr) (i3 z2 w4 w5 : Int32) (cl0 cl1 cl2 : Cell)
    (X0 : Stand p l e R s m args below meth c T0 locs cells slots) (hx : p.tables.exec = Jvm.exec) (hZ : Z.Warmed39 s.vm) (hw : ∀ d ∈ tables_1, d.before a0 Z = true) (hby : c.code = prog_9_method_3_code) (hown : s.vm.findClass "com/example/syngraft/syngraft/core/DiffTree" = some m.cls) (e0 : T0.heap = h0) (Ar2 : Arr Z h0 o2 cl2 .int) (S2 : cl2.slots.size = z2.toNatClampNeg) (N2 : ¬ z2 < 0) (Ar1 : Arr Z h0 o1 cl1 .int) (hin1 : ¬ (i3 < 0 ∨ cl1.slots.size ≤ i3.toNatClampNeg)) (hat1 : cl1.slots[i3.toNatClampNeg]? = some (.int w4)) (Ar0 : Arr Z h0 o0 cl0 .int) (hin0 : ¬ (w4 < 0 ∨ cl0.slots.size ≤ w4.toNatClampNeg)) (hat0 : cl0.slots[w4.toNatClampNeg]? = some (.int w5)) (hc10 : i3 < z2) {target : State} (kt : Steps p.tables e below (T0.setTop (mkF m 20 #[.val (.ref o0), .val (.ref o1), .val (.ref o2), .val (.int i3)] [(.int w5), (.int i3), (.ref o2)])) target) :
    Steps p.tables e below (T0.setTop (mkF m 7 #[.val (.ref o0), .val (.ref o1), .val (.ref o2), .val (.int i3)] [])) target := by
  show Steps p.tables e below (T0.setTop (mkF m 7 #[.val (.ref o0), .val (.ref o1), .val (.ref o2), .val (.int i3)] [])) _
  refine XS.iloadN X0.here hx rfl (hb hby d1_7) rfl ?_
  show Steps p.tables e below (T0.setTop (mkF m 8 #[.val (.ref o0), .val (.ref o1), .val (.ref o2), .val (.int i3)] [(.int i3)])) _
  refine XS.aloadN X0.here hx rfl (hb hby d1_8) rfl rfl ?_
  show Steps p.tables e below (T0.setTop (mkF m 9 #[.val (.ref o0), .val (.ref o1), .val (.ref o2), .val (.int i3)] [(.ref o2), (.int i3)])) _
  refine X0.arraylength hx (by rw [e0]; exact Ar2.1) (State.isArrayOf_alike hZ.alike Ar2.2.1) (g := (mkF m 9 #[.val (.ref o0), .val (.ref o1), .val (.ref o2), .val (.int i3)] [(.ref o2), (.int i3)])) rfl rfl (hb hby d1_9) _ ?_
  rw [len_of S2 N2]
  show Steps p.tables e below (T0.setTop (mkF m 10 #[.val (.ref o0), .val (.ref o1), .val (.ref o2), .val (.int i3)] [(.int z2), (.int i3)])) _
  refine XS.icmpNo X0.here hx rfl (hb hby d1_10) rfl (tlt hc10).2.1 ?_
  show Steps p.tables e below (T0.setTop (mkF m 13 #[.val (.ref o0), .val (.ref o1), .val (.ref o2), .val (.int i3)] [])) _
  refine XS.aloadN X0.here hx rfl (hb hby d1_13) rfl rfl ?_
  show Steps p.tables e below (T0.setTop (mkF m 14 #[.val (.ref o0), .val (.ref o1), .val (.ref o2), .val (.int i3)] [(.ref o2)])) _
  refine XS.iloadN X0.here hx rfl (hb hby d1_14) rfl ?_
  show Steps p.tables e below (T0.setTop (mkF m 15 #[.val (.ref o0), .val (.ref o1), .val (.ref o2), .val (.int i3)] [(.int i3), (.ref o2)])) _
  refine XS.aloadN X0.here hx rfl (hb hby d1_15) rfl rfl ?_
  show Steps p.tables e below (T0.setTop (mkF m 16 #[.val (.ref o0), .val (.ref o1), .val (.ref o2), .val (.int i3)] [(.ref o0), (.int i3), (.ref o2)])) _
  refine XS.aloadN X0.here hx rfl (hb hby d1_16) rfl rfl ?_
  show Steps p.tables e below (T0.setTop (mkF m 17 #[.val (.ref o0), .val (.ref o1), .val (.ref o2), .val (.int i3)] [(.ref o1), (.ref o0), (.int i3), (.ref o2)])) _
  refine XS.iloadN X0.here hx rfl (hb hby d1_17) rfl ?_
  show Steps p.tables e below (T0.setTop (mkF m 18 #[.val (.ref o0), .val (.ref o1), .val (.ref o2), .val (.int i3)] [(.int i3), (.ref o1), (.ref o0), (.int i3), (.ref o2)])) _
  refine X0.iaload hx (j := i3) (v := (.int w4)) (by rw [e0]; exact Ar1.1) (State.isArrayOf_alike hZ.alike Ar1.2.1) Ar1.2.2 hin1 hat1 (g := (mkF m 18 #[.val (.ref o0), .val (.ref o1), .val (.ref o2), .val (.int i3)] [(.int i3), (.ref o1), (.ref o0), (.int i3), (.ref o2)])) rfl rfl (hb hby d1_18) _ ?_
  show Steps p.tables e below (T0.setTop (mkF m 19 #[.val (.ref o0), .val (.ref o1), .val (.ref o2), .val (.int i3)] [(.int w4), (.ref o0), (.int i3), (.ref o2)])) _
  refine X0.iaload hx (j := w4) (v := (.int w5)) (by rw [e0]; exact Ar0.1) (State.isArrayOf_alike hZ.alike Ar0.2.1) Ar0.2.2 hin0 hat0 (g := (mkF m 19 #[.val (.ref o0), .val (.ref o1), .val (.ref o2), .val (.int i3)] [(.int w4), (.ref o0), (.int i3), (.ref o2)])) rfl rfl (hb hby d1_19) _ ?_
  exact kt
theorem d1_21 : decode prog_9_method_3_code 21 = .ok (.iinc 3 1, 3) := by decide +kernel
theorem d1_24 : decode prog_9_method_3_code 24 = .ok (.goto (-17), 3) := by decide +kernel
set_option maxRecDepth 65536 in
set_option maxHeartbeats 40000000 in
theorem tn1_b {p : Program} {l : Launch} {e : Env} {R : Room} {s : State} {m : MethodId} {args : Array Value} {below : List Frame} {meth : Method} {c : Code} {T0 : State} {locs : List Loc} {cells slots : Nat} {Z : State} {a0 : Array Value} {h0 : Heap} (o0 o1 o2 : Addr) (i3 : Int32)
    (X0 : Stand p l e R s m args below meth c T0 locs cells slots) (hx : p.tables.exec = Jvm.exec) (hZ : Z.Warmed39 s.vm) (hw : ∀ d ∈ tables_1, d.before a0 Z = true) (hby : c.code = prog_9_method_3_code) (hown : s.vm.findClass "com/example/syngraft/syngraft/core/DiffTree" = some m.cls) (e0 : T0.heap = h0)  {target : State} (kt : Steps p.tables e below (T0.setTop (mkF m 7 #[.val (.ref o0), .val (.ref o1), .val (.ref o2), .val (.int (i3 + (1 : Int32)))] [])) target) :
    Steps p.tables e below (T0.setTop (mkF m 21 #[.val (.ref o0), .val (.ref o1), .val (.ref o2), .val (.int i3)] [])) target := by
  show Steps p.tables e below (T0.setTop (mkF m 21 #[.val (.ref o0), .val (.ref o1), .val (.ref o2), .val (.int i3)] [])) _
  refine XS.iinc X0.here hx rfl (hb hby d1_21) rfl (l' := #[.val (.ref o0), .val (.ref o1), .val (.ref o2), .val (.int (i3 + (1 : Int32)))]) rfl ?_
  show Steps p.tables e below (T0.setTop (mkF m 24 #[.val (.ref o0), .val (.ref o1), .val (.ref o2), .val (.int (i3 + (1 : Int32)))] [])) _
  refine XS.goto X0.here hx rfl (pc0 := 24) (pc' := 7) rfl (hb hby d1_24) (by decide) (by decide) ?_
  exact kt
set_option maxRecDepth 65536 in
set_option maxHeartbeats 40000000 in
theorem tn1_out {p : Program} {l : Launch} {e : Env} {R : Room} {s : State} {m : MethodId} {args : Array Value} {below : List Frame} {meth : Method} {c : Code} {T0 : State} {locs : List Loc} {cells slots : Nat} {Z : State} {a0 : Array Value} {h0 : Heap} (o0 o1 o2 : Addr) (i3 z2 : Int32) (cl2 : Cell)
    (X0 : Stand p l e R s m args below meth c T0 locs cells slots) (hx : p.tables.exec = Jvm.exec) (hZ : Z.Warmed39 s.vm) (hw : ∀ d ∈ tables_1, d.before a0 Z = true) (hby : c.code = prog_9_method_3_code) (hown : s.vm.findClass "com/example/syngraft/syngraft/core/DiffTree" = some m.cls) (e0 : T0.heap = h0) (Ar2 : Arr Z h0 o2 cl2 .int) (S2 : cl2.slots.size = z2.toNatClampNeg) (N2 : ¬ z2 < 0) (hc10 : ¬ i3 < z2) {target : State} (kt : Steps p.tables e below (T0.setTop (mkF m 27 #[.val (.ref o0), .val (.ref o1), .val (.ref o2), .val (.int i3)] [])) target) :
    Steps p.tables e below (T0.setTop (mkF m 7 #[.val (.ref o0), .val (.ref o1), .val (.ref o2), .val (.int i3)] [])) target := by
  show Steps p.tables e below (T0.setTop (mkF m 7 #[.val (.ref o0), .val (.ref o1), .val (.ref o2), .val (.int i3)] [])) _
  refine XS.iloadN X0.here hx rfl (hb hby d1_7) rfl ?_
  show Steps p.tables e below (T0.setTop (mkF m 8 #[.val (.ref o0), .val (.ref o1), .val (.ref o2), .val (.int i3)] [(.int i3)])) _
  refine XS.aloadN X0.here hx rfl (hb hby d1_8) rfl rfl ?_
  show Steps p.tables e below (T0.setTop (mkF m 9 #[.val (.ref o0), .val (.ref o1), .val (.ref o2), .val (.int i3)] [(.ref o2), (.int i3)])) _
  refine X0.arraylength hx (by rw [e0]; exact Ar2.1) (State.isArrayOf_alike hZ.alike Ar2.2.1) (g := (mkF m 9 #[.val (.ref o0), .val (.ref o1), .val (.ref o2), .val (.int i3)] [(.ref o2), (.int i3)])) rfl rfl (hb hby d1_9) _ ?_
  rw [len_of S2 N2]
  show Steps p.tables e below (T0.setTop (mkF m 10 #[.val (.ref o0), .val (.ref o1), .val (.ref o2), .val (.int i3)] [(.int z2), (.int i3)])) _
  refine XS.icmpYes X0.here hx rfl (pc0 := 10) (pc' := 27) rfl (hb hby d1_10) rfl (flt hc10).2.1 (by decide) (by decide) ?_
  exact kt
theorem d1_0 : decode prog_9_method_3_code 0 = .ok (.aload_n 1, 1) := by decide +kernel
theorem d1_1 : decode prog_9_method_3_code 1 = .ok (.arraylength, 1) := by decide +kernel
theorem d1_2 : decode prog_9_method_3_code 2 = .ok (.newarray .int, 2) := by decide +kernel
theorem d1_4 : decode prog_9_method_3_code 4 = .ok (.astore_n 2, 1) := by decide +kernel
theorem d1_5 : decode prog_9_method_3_code 5 = .ok (.iconst 0, 1) := by decide +kernel
theorem d1_6 : decode prog_9_method_3_code 6 = .ok (.istore_n 3, 1) := by decide +kernel
theorem d1_20 : decode prog_9_method_3_code 20 = .ok (.iastore, 1) := by decide +kernel
theorem d1_27 : decode prog_9_method_3_code 27 = .ok (.aload_n 2, 1) := by decide +kernel
theorem d1_28 : decode prog_9_method_3_code 28 = .ok (.areturn, 1) := by decide +kernel
set_option maxRecDepth 65536 in
set_option maxHeartbeats 40000000 in
theorem own_loop1 {p : Program} {l : Launch} {e : Env} {R : Room} {s : State} {m : MethodId} {args : Array Value} {below : List Frame} {meth : Method} {c : Code} {cells slots : Nat} {Z : State} {a0 : Array Value} {n0 : Nat} (o0 o1 o2 : Addr) (n : Nat) (N : Nat → Int32) (d : Nat → Nat)
    (hx : p.tables.exec = Jvm.exec) (hZ : Z.Warmed39 s.vm) (hw : ∀ d ∈ tables_1, d.before a0 Z = true) (hby : c.code = prog_9_method_3_code) (hown : s.vm.findClass "com/example/syngraft/syngraft/core/DiffTree" = some m.cls) (hn : n < 2 ^ 31) (hd : ∀ j, d j < 3) (ne0 : o0 ≠ o2) (ne1 : o1 ≠ o2) (g2 : n0 ≤ o2) (k : Nat) :
    ∀ (i : Nat) (T0 : State) (h0 : Heap) (locs : List Loc), i + k = n → Stand p l e R s m args below meth c T0 locs cells slots → T0.heap = h0 → Fr n0 locs → AF Z h0 o0 .int 3 (fun j => .int (N j)) → AF Z h0 o1 .int n (fun j => .int (Int32.ofNat (d j))) → AF Z h0 o2 .int n (fun j => if j < i then .int (N (d j)) else .int 0) →
    ∃ (T' : State) (h' : Heap) (locs' : List Loc), Stand p l e R s m args below meth c T' locs' cells slots ∧ T'.heap = h' ∧ Fr n0 locs' ∧ Keep h0 h' [o2] ∧ AF Z h' o2 .int n (fun j => .int (N (d j))) ∧
      ∀ target, Steps p.tables e below (T'.setTop (mkF m 27 #[.val (.ref o0), .val (.ref o1), .val (.ref o2), .val (.int (Int32.ofNat n))] [])) target → Steps p.tables e below (T0.setTop (mkF m 7 #[.val (.ref o0), .val (.ref o1), .val (.ref o2), .val (.int (Int32.ofNat i))] [])) target := by
  have hz : (Int32.ofNat n).toNatClampNeg = n := clamp_of rfl (by omega)
  induction k with
  | zero =>
    intro i T0 h0 locs hik X0 e0 NF V0 V1 V2
    obtain rfl : i = n := by omega
    refine ⟨T0, h0, locs, X0, e0, NF, Keep.refl _ _, V2.congr (fun j hj => by simp [hj]), fun target kt => ?_⟩
    obtain ⟨cl2, Ar2, S2, H2⟩ := V2
    exact tn1_out o0 o1 o2 (Int32.ofNat i) (Int32.ofNat i) cl2 X0 hx hZ hw hby hown e0 Ar2 (by rw [hz]; exact S2) (own_nn (by omega)) (own_ge (by omega) (by omega)) kt
  | succ k ih =>
    intro i T0 h0 locs hik X0 e0 NF V0 V1 V2
    obtain ⟨cl0, Ar0, S0, H0⟩ := V0
    obtain ⟨cl1, Ar1, S1, H1⟩ := V1
    obtain ⟨cl2, Ar2, S2, H2⟩ := V2
    have hi : (Int32.ofNat i).toNatClampNeg = i := clamp_of rfl (by omega)
    have hdi : (Int32.ofNat (d i)).toNatClampNeg = d i := clamp_of rfl (by have := hd i; omega)
    have hin1 : ¬ (Int32.ofNat i < 0 ∨ cl1.slots.size ≤ (Int32.ofNat i).toNatClampNeg) := by rw [S1]; exact within rfl (by omega) (by omega)
    have hin2 : ¬ (Int32.ofNat i < 0 ∨ cl2.slots.size ≤ (Int32.ofNat i).toNatClampNeg) := by rw [S2]; exact within rfl (by omega) (by omega)
    have hin0 : ¬ (Int32.ofNat (d i) < 0 ∨ cl0.slots.size ≤ (Int32.ofNat (d i)).toNatClampNeg) := by rw [S0]; exact within rfl (hd i) (by omega)
    have hat1 : cl1.slots[(Int32.ofNat i).toNatClampNeg]? = some (.int (Int32.ofNat (d i))) := by rw [hi]; exact H1 i (by omega)
    have hat0 : cl0.slots[(Int32.ofNat (d i)).toNatClampNeg]? = some (.int (N (d i))) := by rw [hdi]; exact H0 (d i) (hd i)
    obtain ⟨T1, h1, X1, e1, W1, st1⟩ := stI X0 hx hZ e0 Ar2 (j := Int32.ofNat i) hin2 (g := (mkF m 20 #[.val (.ref o0), .val (.ref o1), .val (.ref o2), .val (.int (Int32.ofNat i))] [(.int (N (d i))), (.int (Int32.ofNat i)), (.ref o2)])) rfl rfl (hb hby d1_20)
    have NF1 := Fr.snoc X1 NF g2
    rw [hi] at W1
    have V2' := (AF.set (⟨cl2, Ar2, S2, H2⟩ : AF Z h0 o2 .int n (fun j => if j < i then .int (N (d j)) else .int 0)) W1).congr (g := fun j => if j < i + 1 then .int (N (d j)) else .int 0) (fun j hj => by
      by_cases q : j = i
      · subst q; simp
      · by_cases q' : j < i
        · have q2 : j < i + 1 := by omega
          simp [q, q', q2]
        · have q2 : ¬ j < i + 1 := by omega
          simp [q, q', q2])
    obtain ⟨T', h', locs', X', e', NF', K', V', st'⟩ := ih (i + 1) T1 h1 _ (by omega) X1 e1 NF1 (AF.other ⟨cl0, Ar0, S0, H0⟩ W1 ne0) (AF.other ⟨cl1, Ar1, S1, H1⟩ W1 ne1) V2'
    refine ⟨T', h', locs', X', e', NF', (Keep.of_wr W1).trans K' (fun x hx => Or.inl hx), V', fun target kt => ?_⟩
    refine tn1_a o0 o1 o2 (Int32.ofNat i) (Int32.ofNat n) (Int32.ofNat (d i)) (N (d i)) cl0 cl1 cl2 X0 hx hZ hw hby hown e0 Ar2 (by rw [hz]; exact S2) (own_nn hn) Ar1 hin1 hat1 Ar0 hin0 hat0 (own_lt (by omega) hn) ?_
    refine st1 _ ?_
    refine tn1_b o0 o1 o2 (Int32.ofNat i) X1 hx hZ hw hby hown e1 ?_
    rw [← inc_ofNat]
    exact st' target kt
theorem pn_1 : plainName "com/example/syngraft/syngraft/core/DiffTree" = true := by first | (simp [plainName, overriddenIn]; done) | decide +kernel
theorem ef_1 (m : MethodId) (x0 : Addr) (x1 : Addr) : entryFrame m #[(.ref x0), (.ref x1)] 4 = mkF m 0 #[.val (.ref x0), .val (.ref x1), .unset, .unset] [] := by first | (simp [entryFrame, mkF, argsToLocals, Value.category]; done) | rfl
def Q1 (Z : State) (N : Nat → Int32) (d : Nat → Nat) (n : Nat) (h0 : Heap) (n0 : Nat) (v : Option Value) (h : Heap) (L : List Loc) : Prop := v = some (.ref h0.size) ∧ Fr n0 L ∧ Keep h0 h [] ∧ AF Z h h0.size .int n (fun j => .int (N (d j)))
set_option maxRecDepth 65536 in
set_option maxHeartbeats 40000000 in
theorem rm1 (l : Launch) (Z : State) (a0 : Array Value) (hw : ∀ d ∈ tables_1, d.before a0 Z = true) (ws : List Jvm.Cond) (a1 a2 : Addr) (N : Nat → Int32) (d : Nat → Nat) (n : Nat) (h0 : Heap) (n0 : Nat) (Z0 : n0 ≤ h0.size) (V1 : AF Z h0 a1 .int 3 (fun j => .int (N j))) (V2 : AF Z h0 a2 .int n (fun j => .int (Int32.ofNat (d j)))) (hn : n ≤ 3) (hd : ∀ j, d j < 3) :
    MetFree l (⟨"com/example/syngraft/syngraft/core/DiffTree", "numbersOf", "([I[I)[I"⟩ : MethodName) (head1 (Jvm.Cond.code (⟨"com/example/syngraft/syngraft/core/DiffTree", "numbersOf", "([I[I)[I"⟩ : MethodName) prog_9_method_3_code 4 (some (.array .int)) :: ws) ({ frames := 0, cells := 1, slots := 3, locals := 0 } : Room)) (fun a U => a = #[(.ref a1), (.ref a2)] ∧ Z.Warmed39 U.vm ∧ U.heap = h0) (fun _ _ _ _ _ => True) (fun _ U o U' => ∃ v L, o = .returned v ∧ Q1 Z N d n h0 n0 v U'.heap L ∧ FrameEnd U o U' L ({ frames := 0, cells := 1, slots := 3, locals := 0 } : Room).cells ({ frames := 0, cells := 1, slots := 3, locals := 0 } : Room).slots) := by
  refine MetFree.of_bodySF (plainFor_of_name pn_1) hisR ?_
  intro p e s m args below meth c s₁ Bd hml0 hP hK
  obtain ⟨rfl, hZ, hh0⟩ := hP
  have hx := Bd.exec
  have hby := Bd.bytes
  have hml : c.maxLocals = 4 := hml0
  have hown : s.vm.findClass "com/example/syngraft/syngraft/core/DiffTree" = some m.cls := findClass_of_methodNamed Bd.named
  have X0 : Stand p l e ({ frames := 0, cells := 1, slots := 3, locals := 0 } : Room) s m #[(.ref a1), (.ref a2)] below meth c s₁ [] 0 0 := Stand.of_body Bd
  have e0 : s₁.heap = h0 := by rw [← hh0, Bd.state]; rfl
  have N0 := Fr.nil n0
  have pre0 : ∀ t, Steps p.tables e below (s₁.setTop (mkF m 0 #[.val (.ref a1), .val (.ref a2), .unset, .unset] [])) t → Steps p.tables e below (s₁.setTop (entryFrame m #[(.ref a1), (.ref a2)] 4)) t := fun t k => castTop (ef_1 m a1 a2) k
  have hz : (Int32.ofNat n).toNatClampNeg = n := clamp_of rfl (by omega)
  have V2' := V2
  obtain ⟨cl1, Ar1, S1, H1⟩ := V2'
  have S1' : cl1.slots.size = (Int32.ofNat n).toNatClampNeg := by rw [hz]; exact S1
  obtain ⟨T1, h1, k1, X1, e1, E1, A1, st1⟩ := newP X0 hx hZ (hw _ (List.mem_of_getElem? (i := 0) rfl)) e0 (g := (mkF m 2 #[.val (.ref a1), .val (.ref a2), .unset, .unset] [(.int (Int32.ofNat n))])) rfl (hb hby d1_2) rfl (own_nn (by omega)) (cap := 3) (by rw [hz]; exact hn) (by decide) (by decide) (by decide)
  have V3 : AF Z h1 h0.size .int n (fun _ => .int 0) := AF.new A1 hz
  obtain ⟨T2, h2, L2, X2, e2, N2, K2, V4, st2⟩ := own_loop1 (a0 := a0) a1 a2 h0.size n N d hx hZ hw hby hown (by omega) hd (Nat.ne_of_lt V1.lt) (Nat.ne_of_lt V2.lt) Z0 n 0 T1 h1 _ (by omega) X1 e1 N0 (V1.ext E1) (V2.ext E1) (V3.congr (fun j _ => by simp))
  obtain ⟨fs, hr, hrun, hended, hW, hsame⟩ := X2.leave (v := some (.ref h0.size)) (fun h => by rw [Bd.returns] at h; cases h)
  refine ⟨_, _, pre0 _ ?_, hrun, hended, _, _, rfl, ?_, ⟨_, rfl⟩, hW, hsame.mono (by decide) (by decide)⟩
  · show Steps p.tables e below (s₁.setTop (mkF m 0 #[.val (.ref a1), .val (.ref a2), .unset, .unset] [])) _
    refine XS.aloadN X0.here hx rfl (hb hby d1_0) rfl rfl ?_
    show Steps p.tables e below (s₁.setTop (mkF m 1 #[.val (.ref a1), .val (.ref a2), .unset, .unset] [(.ref a2)])) _
    refine X0.arraylength hx (by rw [e0]; exact Ar1.1) (State.isArrayOf_alike hZ.alike Ar1.2.1) (g := (mkF m 1 #[.val (.ref a1), .val (.ref a2), .unset, .unset] [(.ref a2)])) rfl rfl (hb hby d1_1) _ ?_
    rw [len_of S1' (own_nn (by omega))]
    show Steps p.tables e below (s₁.setTop (mkF m 2 #[.val (.ref a1), .val (.ref a2), .unset, .unset] [(.int (Int32.ofNat n))])) _
    refine st1 _ ?_
    show Steps p.tables e below (T1.setTop (mkF m 4 #[.val (.ref a1), .val (.ref a2), .unset, .unset] [(.ref h0.size)])) _
    refine XS.astoreN X1.here hx rfl (hb hby d1_4) rfl rfl (l' := #[.val (.ref a1), .val (.ref a2), .val (.ref h0.size), .unset]) rfl ?_
    show Steps p.tables e below (T1.setTop (mkF m 5 #[.val (.ref a1), .val (.ref a2), .val (.ref h0.size), .unset] [])) _
    refine XS.iconst X1.here hx rfl (hb hby d1_5) ?_
    show Steps p.tables e below (T1.setTop (mkF m 6 #[.val (.ref a1), .val (.ref a2), .val (.ref h0.size), .unset] [(.int (0 : Int32))])) _
    refine XS.istoreN X1.here hx rfl (hb hby d1_6) rfl (l' := #[.val (.ref a1), .val (.ref a2), .val (.ref h0.size), .val (.int (0 : Int32))]) rfl ?_
    show Steps p.tables e below (T1.setTop (mkF m 7 #[.val (.ref a1), .val (.ref a2), .val (.ref h0.size), .val (.int (Int32.ofNat 0))] [])) _
    refine st2 _ ?_
    show Steps p.tables e below (T2.setTop (mkF m 27 #[.val (.ref a1), .val (.ref a2), .val (.ref h0.size), .val (.int (Int32.ofNat n))] [])) _
    refine XS.aloadN X2.here hx rfl (hb hby d1_27) rfl rfl ?_
    show Steps p.tables e below (T2.setTop (mkF m 28 #[.val (.ref a1), .val (.ref a2), .val (.ref h0.size), .val (.int (Int32.ofNat n))] [(.ref h0.size)])) _
    jvm_step X2.here [X2.here.top, hx, (hb hby d1_28), X2.method', Bd.returns, Value.isRef, FieldType.isReference]
    first | (intro acts; rw [hr _ acts rfl rfl rfl]) | rw [hr _ _ rfl rfl rfl]
    exact Steps.refl _
  · show Q1 Z N d n h0 n0 _ T2.heap _
    rw [e2]
    exact ⟨rfl, N2, ((Keep.refl h0 []).ext E1).trans K2 (allS (Or.inr (Nat.le_refl _)) all0), V4⟩
def Q2 (Z : State) (r : Int32) (h0 : Heap) (n0 : Nat) (v : Option Value) (h : Heap) (L : List Loc) : Prop := v = some (.int r) ∧ Fr n0 L ∧ h = h0
theorem d2_0 : decode method_2_code 0 = .ok (.iload_n 3, 1) := by decide +kernel
theorem d2_1 : decode method_2_code 1 = .ok (.ifCond .ne 5, 3) := by decide +kernel
theorem d2_4 : decode method_2_code 4 = .ok (.iload_n 0, 1) := by decide +kernel
theorem d2_5 : decode method_2_code 5 = .ok (.ireturn, 1) := by decide +kernel
theorem pn_2 : plainName "com/example/syngraft/syngraft/core/DiffTreeNumbersOfPinLaw" = true := by first | (simp [plainName, overriddenIn]; done) | decide +kernel
theorem ef_2 (m : MethodId) (x0 : Int32) (x1 : Int32) (x2 : Int32) (x3 : Int32) : entryFrame m #[(.int x0), (.int x1), (.int x2), (.int x3)] 4 = mkF m 0 #[.val (.int x0), .val (.int x1), .val (.int x2), .val (.int x3)] [] := by first | (simp [entryFrame, mkF, argsToLocals, Value.category]; done) | rfl
set_option maxRecDepth 65536 in
set_option maxHeartbeats 40000000 in
theorem rm2_f (l : Launch) (Z : State) (a0 : Array Value) (hw : ∀ d ∈ tables_1, d.before a0 Z = true) (ws : List Jvm.Cond) (p1 : Int32) (p2 : Int32) (p3 : Int32) (p4 : Int32) (h0 : Heap) (n0 : Nat) (Z0 : n0 ≤ h0.size) (hc1 : p4 = (0 : Int32)) :
    MetFree l (⟨"com/example/syngraft/syngraft/core/DiffTreeNumbersOfPinLaw", "pick", "(IIII)I"⟩ : MethodName) (head1 (Jvm.Cond.code (⟨"com/example/syngraft/syngraft/core/DiffTreeNumbersOfPinLaw", "pick", "(IIII)I"⟩ : MethodName) method_2_code 4 (some .int) :: ws) ({ frames := 0, cells := 0, slots := 0, locals := 0 } : Room)) (fun a U => a = #[(.int p1), (.int p2), (.int p3), (.int p4)] ∧ Z.Warmed39 U.vm ∧ U.heap = h0) (fun _ _ _ _ _ => True) (fun _ U o U' => ∃ v L, o = .returned v ∧ Q2 Z p1 h0 n0 v U'.heap L ∧ FrameEnd U o U' L ({ frames := 0, cells := 0, slots := 0, locals := 0 } : Room).cells ({ frames := 0, cells := 0, slots := 0, locals := 0 } : Room).slots) := by
  refine MetFree.of_bodySF (plainFor_of_name pn_2) hisR ?_
  intro p e s m args below meth c s₁ Bd hml0 hP hK
  obtain ⟨rfl, hZ, hh⟩ := hP
  have hx := Bd.exec
  have hby := Bd.bytes
  have hml : c.maxLocals = 4 := hml0
  have hown : s.vm.findClass "com/example/syngraft/syngraft/core/DiffTreeNumbersOfPinLaw" = some m.cls := findClass_of_methodNamed Bd.named
  have hnm := (name_of_methodNamed Bd.named Bd.method).1
  have X0 : Stand p l e ({ frames := 0, cells := 0, slots := 0, locals := 0 } : Room) s m #[(.int p1), (.int p2), (.int p3), (.int p4)] below meth c s₁ [] 0 0 := Stand.of_body Bd
  have e0 : s₁.heap = h0 := by rw [← hh, Bd.state]; rfl
  have N0 := Fr.nil n0
  have pre0 : ∀ t, Steps p.tables e below (s₁.setTop (mkF m 0 #[.val (.int p1), .val (.int p2), .val (.int p3), .val (.int p4)] [])) t → Steps p.tables e below (s₁.setTop (entryFrame m #[(.int p1), (.int p2), (.int p3), (.int p4)] 4)) t := fun t k => castTop (ef_2 m p1 p2 p3 p4) k


  obtain ⟨fs, hr, hrun, hended, hW, hsame⟩ := X0.leave (v := some (.int p1)) (fun h => by rw [Bd.returns] at h; cases h)
  refine ⟨_, _, pre0 _ ?_, hrun, hended, _, _, rfl, ?_, ⟨_, rfl⟩, hW, hsame.mono (by decide) (by decide)⟩

  · show Steps p.tables e below (s₁.setTop (mkF m 0 #[.val (.int p1), .val (.int p2), .val (.int p3), .val (.int p4)] [])) _
    refine XS.iloadN X0.here hx rfl (hb hby d2_0) rfl ?_
    show Steps p.tables e below (s₁.setTop (mkF m 1 #[.val (.int p1), .val (.int p2), .val (.int p3), .val (.int p4)] [(.int p4)])) _
    refine XS.ifNo X0.here hx rfl (hb hby d2_1) rfl ((if0 _ _).trans (teq hc1).2) ?_
    show Steps p.tables e below (s₁.setTop (mkF m 4 #[.val (.int p1), .val (.int p2), .val (.int p3), .val (.int p4)] [])) _
    refine XS.iloadN X0.here hx rfl (hb hby d2_4) rfl ?_
    show Steps p.tables e below (s₁.setTop (mkF m 5 #[.val (.int p1), .val (.int p2), .val (.int p3), .val (.int p4)] [(.int p1)])) _
    exact retI X0 hx Bd.returns (hb hby d2_5) hr
  · show Q2 Z p1 h0 n0 _ s₁.heap _
    rw [e0]
    exact ⟨rfl, N0, rfl⟩
theorem d2_6 : decode method_2_code 6 = .ok (.iload_n 3, 1) := by decide +kernel
theorem d2_7 : decode method_2_code 7 = .ok (.iconst 1, 1) := by decide +kernel
theorem d2_8 : decode method_2_code 8 = .ok (.if_icmp .ne 5, 3) := by decide +kernel
theorem d2_11 : decode method_2_code 11 = .ok (.iload_n 1, 1) := by decide +kernel
theorem d2_12 : decode method_2_code 12 = .ok (.ireturn, 1) := by decide +kernel
set_option maxRecDepth 65536 in
set_option maxHeartbeats 40000000 in
theorem rm2_tf (l : Launch) (Z : State) (a0 : Array Value) (hw : ∀ d ∈ tables_1, d.before a0 Z = true) (ws : List Jvm.Cond) (p1 : Int32) (p2 : Int32) (p3 : Int32) (p4 : Int32) (h0 : Heap) (n0 : Nat) (Z0 : n0 ≤ h0.size) (hc1 : ¬ (p4 = (0 : Int32))) (hc8 : p4 = (1 : Int32)) :
    MetFree l (⟨"com/example/syngraft/syngraft/core/DiffTreeNumbersOfPinLaw", "pick", "(IIII)I"⟩ : MethodName) (head1 (Jvm.Cond.code (⟨"com/example/syngraft/syngraft/core/DiffTreeNumbersOfPinLaw", "pick", "(IIII)I"⟩ : MethodName) method_2_code 4 (some .int) :: ws) ({ frames := 0, cells := 0, slots := 0, locals := 0 } : Room)) (fun a U => a = #[(.int p1), (.int p2), (.int p3), (.int p4)] ∧ Z.Warmed39 U.vm ∧ U.heap = h0) (fun _ _ _ _ _ => True) (fun _ U o U' => ∃ v L, o = .returned v ∧ Q2 Z p2 h0 n0 v U'.heap L ∧ FrameEnd U o U' L ({ frames := 0, cells := 0, slots := 0, locals := 0 } : Room).cells ({ frames := 0, cells := 0, slots := 0, locals := 0 } : Room).slots) := by
  refine MetFree.of_bodySF (plainFor_of_name pn_2) hisR ?_
  intro p e s m args below meth c s₁ Bd hml0 hP hK
  obtain ⟨rfl, hZ, hh⟩ := hP
  have hx := Bd.exec
  have hby := Bd.bytes
  have hml : c.maxLocals = 4 := hml0
  have hown : s.vm.findClass "com/example/syngraft/syngraft/core/DiffTreeNumbersOfPinLaw" = some m.cls := findClass_of_methodNamed Bd.named
  have hnm := (name_of_methodNamed Bd.named Bd.method).1
  have X0 : Stand p l e ({ frames := 0, cells := 0, slots := 0, locals := 0 } : Room) s m #[(.int p1), (.int p2), (.int p3), (.int p4)] below meth c s₁ [] 0 0 := Stand.of_body Bd
  have e0 : s₁.heap = h0 := by rw [← hh, Bd.state]; rfl
  have N0 := Fr.nil n0
  have pre0 : ∀ t, Steps p.tables e below (s₁.setTop (mkF m 0 #[.val (.int p1), .val (.int p2), .val (.int p3), .val (.int p4)] [])) t → Steps p.tables e below (s₁.setTop (entryFrame m #[(.int p1), (.int p2), (.int p3), (.int p4)] 4)) t := fun t k => castTop (ef_2 m p1 p2 p3 p4) k


  obtain ⟨fs, hr, hrun, hended, hW, hsame⟩ := X0.leave (v := some (.int p2)) (fun h => by rw [Bd.returns] at h; cases h)
  refine ⟨_, _, pre0 _ ?_, hrun, hended, _, _, rfl, ?_, ⟨_, rfl⟩, hW, hsame.mono (by decide) (by decide)⟩

  · show Steps p.tables e below (s₁.setTop (mkF m 0 #[.val (.int p1), .val (.int p2), .val (.int p3), .val (.int p4)] [])) _
    refine XS.iloadN X0.here hx rfl (hb hby d2_0) rfl ?_
    show Steps p.tables e below (s₁.setTop (mkF m 1 #[.val (.int p1), .val (.int p2), .val (.int p3), .val (.int p4)] [(.int p4)])) _
    refine XS.ifYes X0.here hx rfl (pc0 := 1) (pc' := 6) rfl (hb hby d2_1) rfl ((if0 _ _).trans (feq hc1).2) (by decide) (by decide) ?_
    show Steps p.tables e below (s₁.setTop (mkF m 6 #[.val (.int p1), .val (.int p2), .val (.int p3), .val (.int p4)] [])) _
    refine XS.iloadN X0.here hx rfl (hb hby d2_6) rfl ?_
    show Steps p.tables e below (s₁.setTop (mkF m 7 #[.val (.int p1), .val (.int p2), .val (.int p3), .val (.int p4)] [(.int p4)])) _
    refine XS.iconst X0.here hx rfl (hb hby d2_7) ?_
    show Steps p.tables e below (s₁.setTop (mkF m 8 #[.val (.int p1), .val (.int p2), .val (.int p3), .val (.int p4)] [(.int (1 : Int32)), (.int p4)])) _
    refine XS.icmpNo X0.here hx rfl (hb hby d2_8) rfl (teq hc8).2 ?_
    show Steps p.tables e below (s₁.setTop (mkF m 11 #[.val (.int p1), .val (.int p2), .val (.int p3), .val (.int p4)] [])) _
    refine XS.iloadN X0.here hx rfl (hb hby d2_11) rfl ?_
    show Steps p.tables e below (s₁.setTop (mkF m 12 #[.val (.int p1), .val (.int p2), .val (.int p3), .val (.int p4)] [(.int p2)])) _
    exact retI X0 hx Bd.returns (hb hby d2_12) hr
  · show Q2 Z p2 h0 n0 _ s₁.heap _
    rw [e0]
    exact ⟨rfl, N0, rfl⟩
theorem d2_13 : decode method_2_code 13 = .ok (.iload_n 2, 1) := by decide +kernel
theorem d2_14 : decode method_2_code 14 = .ok (.ireturn, 1) := by decide +kernel
set_option maxRecDepth 65536 in
set_option maxHeartbeats 40000000 in
theorem rm2_tt (l : Launch) (Z : State) (a0 : Array Value) (hw : ∀ d ∈ tables_1, d.before a0 Z = true) (ws : List Jvm.Cond) (p1 : Int32) (p2 : Int32) (p3 : Int32) (p4 : Int32) (h0 : Heap) (n0 : Nat) (Z0 : n0 ≤ h0.size) (hc1 : ¬ (p4 = (0 : Int32))) (hc8 : ¬ (p4 = (1 : Int32))) :
    MetFree l (⟨"com/example/syngraft/syngraft/core/DiffTreeNumbersOfPinLaw", "pick", "(IIII)I"⟩ : MethodName) (head1 (Jvm.Cond.code (⟨"com/example/syngraft/syngraft/core/DiffTreeNumbersOfPinLaw", "pick", "(IIII)I"⟩ : MethodName) method_2_code 4 (some .int) :: ws) ({ frames := 0, cells := 0, slots := 0, locals := 0 } : Room)) (fun a U => a = #[(.int p1), (.int p2), (.int p3), (.int p4)] ∧ Z.Warmed39 U.vm ∧ U.heap = h0) (fun _ _ _ _ _ => True) (fun _ U o U' => ∃ v L, o = .returned v ∧ Q2 Z p3 h0 n0 v U'.heap L ∧ FrameEnd U o U' L ({ frames := 0, cells := 0, slots := 0, locals := 0 } : Room).cells ({ frames := 0, cells := 0, slots := 0, locals := 0 } : Room).slots) := by
  refine MetFree.of_bodySF (plainFor_of_name pn_2) hisR ?_
  intro p e s m args below meth c s₁ Bd hml0 hP hK
  obtain ⟨rfl, hZ, hh⟩ := hP
  have hx := Bd.exec
  have hby := Bd.bytes
  have hml : c.maxLocals = 4 := hml0
  have hown : s.vm.findClass "com/example/syngraft/syngraft/core/DiffTreeNumbersOfPinLaw" = some m.cls := findClass_of_methodNamed Bd.named
  have hnm := (name_of_methodNamed Bd.named Bd.method).1
  have X0 : Stand p l e ({ frames := 0, cells := 0, slots := 0, locals := 0 } : Room) s m #[(.int p1), (.int p2), (.int p3), (.int p4)] below meth c s₁ [] 0 0 := Stand.of_body Bd
  have e0 : s₁.heap = h0 := by rw [← hh, Bd.state]; rfl
  have N0 := Fr.nil n0
  have pre0 : ∀ t, Steps p.tables e below (s₁.setTop (mkF m 0 #[.val (.int p1), .val (.int p2), .val (.int p3), .val (.int p4)] [])) t → Steps p.tables e below (s₁.setTop (entryFrame m #[(.int p1), (.int p2), (.int p3), (.int p4)] 4)) t := fun t k => castTop (ef_2 m p1 p2 p3 p4) k


  obtain ⟨fs, hr, hrun, hended, hW, hsame⟩ := X0.leave (v := some (.int p3)) (fun h => by rw [Bd.returns] at h; cases h)
  refine ⟨_, _, pre0 _ ?_, hrun, hended, _, _, rfl, ?_, ⟨_, rfl⟩, hW, hsame.mono (by decide) (by decide)⟩

  · show Steps p.tables e below (s₁.setTop (mkF m 0 #[.val (.int p1), .val (.int p2), .val (.int p3), .val (.int p4)] [])) _
    refine XS.iloadN X0.here hx rfl (hb hby d2_0) rfl ?_
    show Steps p.tables e below (s₁.setTop (mkF m 1 #[.val (.int p1), .val (.int p2), .val (.int p3), .val (.int p4)] [(.int p4)])) _
    refine XS.ifYes X0.here hx rfl (pc0 := 1) (pc' := 6) rfl (hb hby d2_1) rfl ((if0 _ _).trans (feq hc1).2) (by decide) (by decide) ?_
    show Steps p.tables e below (s₁.setTop (mkF m 6 #[.val (.int p1), .val (.int p2), .val (.int p3), .val (.int p4)] [])) _
    refine XS.iloadN X0.here hx rfl (hb hby d2_6) rfl ?_
    show Steps p.tables e below (s₁.setTop (mkF m 7 #[.val (.int p1), .val (.int p2), .val (.int p3), .val (.int p4)] [(.int p4)])) _
    refine XS.iconst X0.here hx rfl (hb hby d2_7) ?_
    show Steps p.tables e below (s₁.setTop (mkF m 8 #[.val (.int p1), .val (.int p2), .val (.int p3), .val (.int p4)] [(.int (1 : Int32)), (.int p4)])) _
    refine XS.icmpYes X0.here hx rfl (pc0 := 8) (pc' := 13) rfl (hb hby d2_8) rfl (feq hc8).2 (by decide) (by decide) ?_
    show Steps p.tables e below (s₁.setTop (mkF m 13 #[.val (.int p1), .val (.int p2), .val (.int p3), .val (.int p4)] [])) _
    refine XS.iloadN X0.here hx rfl (hb hby d2_13) rfl ?_
    show Steps p.tables e below (s₁.setTop (mkF m 14 #[.val (.int p1), .val (.int p2), .val (.int p3), .val (.int p4)] [(.int p3)])) _
    exact retI X0 hx Bd.returns (hb hby d2_14) hr
  · show Q2 Z p3 h0 n0 _ s₁.heap _
    rw [e0]
    exact ⟨rfl, N0, rfl⟩
theorem rm2 (l : Launch) (Z : State) (a0 : Array Value) (hw : ∀ d ∈ tables_1, d.before a0 Z = true) (ws : List Jvm.Cond) (p1 : Int32) (p2 : Int32) (p3 : Int32) (p4 : Int32) (h0 : Heap) (n0 : Nat) (Z0 : n0 ≤ h0.size) :
    MetFree l (⟨"com/example/syngraft/syngraft/core/DiffTreeNumbersOfPinLaw", "pick", "(IIII)I"⟩ : MethodName) (head1 (Jvm.Cond.code (⟨"com/example/syngraft/syngraft/core/DiffTreeNumbersOfPinLaw", "pick", "(IIII)I"⟩ : MethodName) method_2_code 4 (some .int) :: ws) ({ frames := 0, cells := 0, slots := 0, locals := 0 } : Room)) (fun a U => a = #[(.int p1), (.int p2), (.int p3), (.int p4)] ∧ Z.Warmed39 U.vm ∧ U.heap = h0) (fun _ _ _ _ _ => True) (fun _ U o U' => ∃ v L, o = .returned v ∧ Q2 Z (own_pick p1 p2 p3 p4) h0 n0 v U'.heap L ∧ FrameEnd U o U' L ({ frames := 0, cells := 0, slots := 0, locals := 0 } : Room).cells ({ frames := 0, cells := 0, slots := 0, locals := 0 } : Room).slots) := by
  by_cases hc1 : p4 = (0 : Int32)
  · have q : own_pick p1 p2 p3 p4 = p1 := by simp [own_pick, hc1]
    rw [q]; exact rm2_f l Z a0 hw ws p1 p2 p3 p4 h0 n0 Z0 hc1
  · by_cases hc8 : p4 = (1 : Int32)
    · have q : own_pick p1 p2 p3 p4 = p2 := by simp [own_pick, hc8]
      rw [q]; exact rm2_tf l Z a0 hw ws p1 p2 p3 p4 h0 n0 Z0 hc1 hc8
    · have q : own_pick p1 p2 p3 p4 = p3 := by simp [own_pick, hc1, hc8]
      rw [q]; exact rm2_tt l Z a0 hw ws p1 p2 p3 p4 h0 n0 Z0 hc1 hc8
set_option maxRecDepth 65536 in
set_option maxHeartbeats 40000000 in
theorem sg0 {p : Program} {l : Launch} {e : Env} {R : Room} {s : State} {m : MethodId} {args : Array Value} {below : List Frame} {meth : Method} {c : Code} {T0 : State} {locs : List Loc} {cells slots : Nat} {Z : State} {a0 : Array Value} {h0 : Heap} (p1 p2 p3 p4 p5 : Int32)
    (X0 : Stand p l e R s m args below meth c T0 locs cells slots) (hx : p.tables.exec = Jvm.exec) (hZ : Z.Warmed39 s.vm) (hw : ∀ d ∈ tables_1, d.before a0 Z = true) (hby : c.code = code) (hown : s.vm.findClass "com/example/syngraft/syngraft/core/DiffTreeNumbersOfPinLaw" = some m.cls) (e0 : T0.heap = h0)  {target : State} (kt : Steps p.tables e below (T0.setTop (mkF m 42 #[.val (.int p1), .val (.int p2), .val (.int p3), .val (.int p4), .val (.int p5), .val (.int (p4 &&& (3 : Int32))), .val (.int ((p5 &&& (255 : Int32)) % (3 : Int32))), .val (.int (((XT.ushr p5 (8 : Int32)) &&& (255 : Int32)) % (3 : Int32))), .val (.int (((XT.ushr p5 (16 : Int32)) &&& (255 : Int32)) % (3 : Int32))), .unset, .unset, .unset] [(.int (3 : Int32))])) target) :
    Steps p.tables e below (T0.setTop (mkF m 0 #[.val (.int p1), .val (.int p2), .val (.int p3), .val (.int p4), .val (.int p5), .unset, .unset, .unset, .unset, .unset, .unset, .unset] [])) target := by
  show Steps p.tables e below (T0.setTop (mkF m 0 #[.val (.int p1), .val (.int p2), .val (.int p3), .val (.int p4), .val (.int p5), .unset, .unset, .unset, .unset, .unset, .unset, .unset] [])) _
  refine XS.iloadN X0.here hx rfl (hb hby at_0) rfl ?_
  show Steps p.tables e below (T0.setTop (mkF m 1 #[.val (.int p1), .val (.int p2), .val (.int p3), .val (.int p4), .val (.int p5), .unset, .unset, .unset, .unset, .unset, .unset, .unset] [(.int p4)])) _
  refine XS.iconst X0.here hx rfl (hb hby at_1) ?_
  show Steps p.tables e below (T0.setTop (mkF m 2 #[.val (.int p1), .val (.int p2), .val (.int p3), .val (.int p4), .val (.int p5), .unset, .unset, .unset, .unset, .unset, .unset, .unset] [(.int (3 : Int32)), (.int p4)])) _
  refine XS.iand X0.here hx rfl (hb hby at_2) rfl ?_
  show Steps p.tables e below (T0.setTop (mkF m 3 #[.val (.int p1), .val (.int p2), .val (.int p3), .val (.int p4), .val (.int p5), .unset, .unset, .unset, .unset, .unset, .unset, .unset] [(.int (p4 &&& (3 : Int32)))])) _
  refine XS.istore X0.here hx rfl (hb hby at_3) rfl (l' := #[.val (.int p1), .val (.int p2), .val (.int p3), .val (.int p4), .val (.int p5), .val (.int (p4 &&& (3 : Int32))), .unset, .unset, .unset, .unset, .unset, .unset]) rfl ?_
  show Steps p.tables e below (T0.setTop (mkF m 5 #[.val (.int p1), .val (.int p2), .val (.int p3), .val (.int p4), .val (.int p5), .val (.int (p4 &&& (3 : Int32))), .unset, .unset, .unset, .unset, .unset, .unset] [])) _
  refine XS.iload X0.here hx rfl (hb hby at_5) rfl ?_
  show Steps p.tables e below (T0.setTop (mkF m 7 #[.val (.int p1), .val (.int p2), .val (.int p3), .val (.int p4), .val (.int p5), .val (.int (p4 &&& (3 : Int32))), .unset, .unset, .unset, .unset, .unset, .unset] [(.int p5)])) _
  refine XS.sipush X0.here hx rfl (hb hby at_7) ?_
  show Steps p.tables e below (T0.setTop (mkF m 10 #[.val (.int p1), .val (.int p2), .val (.int p3), .val (.int p4), .val (.int p5), .val (.int (p4 &&& (3 : Int32))), .unset, .unset, .unset, .unset, .unset, .unset] [(.int (255 : Int32)), (.int p5)])) _
  refine XS.iand X0.here hx rfl (hb hby at_10) rfl ?_
  show Steps p.tables e below (T0.setTop (mkF m 11 #[.val (.int p1), .val (.int p2), .val (.int p3), .val (.int p4), .val (.int p5), .val (.int (p4 &&& (3 : Int32))), .unset, .unset, .unset, .unset, .unset, .unset] [(.int (p5 &&& (255 : Int32)))])) _
  refine XS.iconst X0.here hx rfl (hb hby at_11) ?_
  show Steps p.tables e below (T0.setTop (mkF m 12 #[.val (.int p1), .val (.int p2), .val (.int p3), .val (.int p4), .val (.int p5), .val (.int (p4 &&& (3 : Int32))), .unset, .unset, .unset, .unset, .unset, .unset] [(.int (3 : Int32)), (.int (p5 &&& (255 : Int32)))])) _
  refine iremM (g := (mkF m 12 #[.val (.int p1), .val (.int p2), .val (.int p3), .val (.int p4), .val (.int p5), .val (.int (p4 &&& (3 : Int32))), .unset, .unset, .unset, .unset, .unset, .unset] [(.int (3 : Int32)), (.int (p5 &&& (255 : Int32)))])) X0 hx rfl (hb hby at_12) rfl (by decide) ?_
  show Steps p.tables e below (T0.setTop (mkF m 13 #[.val (.int p1), .val (.int p2), .val (.int p3), .val (.int p4), .val (.int p5), .val (.int (p4 &&& (3 : Int32))), .unset, .unset, .unset, .unset, .unset, .unset] [(.int ((p5 &&& (255 : Int32)) % (3 : Int32)))])) _
  refine XS.istore X0.here hx rfl (hb hby at_13) rfl (l' := #[.val (.int p1), .val (.int p2), .val (.int p3), .val (.int p4), .val (.int p5), .val (.int (p4 &&& (3 : Int32))), .val (.int ((p5 &&& (255 : Int32)) % (3 : Int32))), .unset, .unset, .unset, .unset, .unset]) rfl ?_
  show Steps p.tables e below (T0.setTop (mkF m 15 #[.val (.int p1), .val (.int p2), .val (.int p3), .val (.int p4), .val (.int p5), .val (.int (p4 &&& (3 : Int32))), .val (.int ((p5 &&& (255 : Int32)) % (3 : Int32))), .unset, .unset, .unset, .unset, .unset] [])) _
  refine XS.iload X0.here hx rfl (hb hby at_15) rfl ?_
  show Steps p.tables e below (T0.setTop (mkF m 17 #[.val (.int p1), .val (.int p2), .val (.int p3), .val (.int p4), .val (.int p5), .val (.int (p4 &&& (3 : Int32))), .val (.int ((p5 &&& (255 : Int32)) % (3 : Int32))), .unset, .unset, .unset, .unset, .unset] [(.int p5)])) _
  refine XS.bipush X0.here hx rfl (hb hby at_17) ?_
  show Steps p.tables e below (T0.setTop (mkF m 19 #[.val (.int p1), .val (.int p2), .val (.int p3), .val (.int p4), .val (.int p5), .val (.int (p4 &&& (3 : Int32))), .val (.int ((p5 &&& (255 : Int32)) % (3 : Int32))), .unset, .unset, .unset, .unset, .unset] [(.int (8 : Int32)), (.int p5)])) _
  refine XS.iushr X0.here hx rfl (hb hby at_19) rfl ?_
  show Steps p.tables e below (T0.setTop (mkF m 20 #[.val (.int p1), .val (.int p2), .val (.int p3), .val (.int p4), .val (.int p5), .val (.int (p4 &&& (3 : Int32))), .val (.int ((p5 &&& (255 : Int32)) % (3 : Int32))), .unset, .unset, .unset, .unset, .unset] [(.int (XT.ushr p5 (8 : Int32)))])) _
  refine XS.sipush X0.here hx rfl (hb hby at_20) ?_
  show Steps p.tables e below (T0.setTop (mkF m 23 #[.val (.int p1), .val (.int p2), .val (.int p3), .val (.int p4), .val (.int p5), .val (.int (p4 &&& (3 : Int32))), .val (.int ((p5 &&& (255 : Int32)) % (3 : Int32))), .unset, .unset, .unset, .unset, .unset] [(.int (255 : Int32)), (.int (XT.ushr p5 (8 : Int32)))])) _
  refine XS.iand X0.here hx rfl (hb hby at_23) rfl ?_
  show Steps p.tables e below (T0.setTop (mkF m 24 #[.val (.int p1), .val (.int p2), .val (.int p3), .val (.int p4), .val (.int p5), .val (.int (p4 &&& (3 : Int32))), .val (.int ((p5 &&& (255 : Int32)) % (3 : Int32))), .unset, .unset, .unset, .unset, .unset] [(.int ((XT.ushr p5 (8 : Int32)) &&& (255 : Int32)))])) _
  refine XS.iconst X0.here hx rfl (hb hby at_24) ?_
  show Steps p.tables e below (T0.setTop (mkF m 25 #[.val (.int p1), .val (.int p2), .val (.int p3), .val (.int p4), .val (.int p5), .val (.int (p4 &&& (3 : Int32))), .val (.int ((p5 &&& (255 : Int32)) % (3 : Int32))), .unset, .unset, .unset, .unset, .unset] [(.int (3 : Int32)), (.int ((XT.ushr p5 (8 : Int32)) &&& (255 : Int32)))])) _
  refine iremM (g := (mkF m 25 #[.val (.int p1), .val (.int p2), .val (.int p3), .val (.int p4), .val (.int p5), .val (.int (p4 &&& (3 : Int32))), .val (.int ((p5 &&& (255 : Int32)) % (3 : Int32))), .unset, .unset, .unset, .unset, .unset] [(.int (3 : Int32)), (.int ((XT.ushr p5 (8 : Int32)) &&& (255 : Int32)))])) X0 hx rfl (hb hby at_25) rfl (by decide) ?_
  show Steps p.tables e below (T0.setTop (mkF m 26 #[.val (.int p1), .val (.int p2), .val (.int p3), .val (.int p4), .val (.int p5), .val (.int (p4 &&& (3 : Int32))), .val (.int ((p5 &&& (255 : Int32)) % (3 : Int32))), .unset, .unset, .unset, .unset, .unset] [(.int (((XT.ushr p5 (8 : Int32)) &&& (255 : Int32)) % (3 : Int32)))])) _
  refine XS.istore X0.here hx rfl (hb hby at_26) rfl (l' := #[.val (.int p1), .val (.int p2), .val (.int p3), .val (.int p4), .val (.int p5), .val (.int (p4 &&& (3 : Int32))), .val (.int ((p5 &&& (255 : Int32)) % (3 : Int32))), .val (.int (((XT.ushr p5 (8 : Int32)) &&& (255 : Int32)) % (3 : Int32))), .unset, .unset, .unset, .unset]) rfl ?_
  show Steps p.tables e below (T0.setTop (mkF m 28 #[.val (.int p1), .val (.int p2), .val (.int p3), .val (.int p4), .val (.int p5), .val (.int (p4 &&& (3 : Int32))), .val (.int ((p5 &&& (255 : Int32)) % (3 : Int32))), .val (.int (((XT.ushr p5 (8 : Int32)) &&& (255 : Int32)) % (3 : Int32))), .unset, .unset, .unset, .unset] [])) _
  refine XS.iload X0.here hx rfl (hb hby at_28) rfl ?_
  show Steps p.tables e below (T0.setTop (mkF m 30 #[.val (.int p1), .val (.int p2), .val (.int p3), .val (.int p4), .val (.int p5), .val (.int (p4 &&& (3 : Int32))), .val (.int ((p5 &&& (255 : Int32)) % (3 : Int32))), .val (.int (((XT.ushr p5 (8 : Int32)) &&& (255 : Int32)) % (3 : Int32))), .unset, .unset, .unset, .unset] [(.int p5)])) _
  refine XS.bipush X0.here hx rfl (hb hby at_30) ?_
  show Steps p.tables e below (T0.setTop (mkF m 32 #[.val (.int p1), .val (.int p2), .val (.int p3), .val (.int p4), .val (.int p5), .val (.int (p4 &&& (3 : Int32))), .val (.int ((p5 &&& (255 : Int32)) % (3 : Int32))), .val (.int (((XT.ushr p5 (8 : Int32)) &&& (255 : Int32)) % (3 : Int32))), .unset, .unset, .unset, .unset] [(.int (16 : Int32)), (.int p5)])) _
  refine XS.iushr X0.here hx rfl (hb hby at_32) rfl ?_
  show Steps p.tables e below (T0.setTop (mkF m 33 #[.val (.int p1), .val (.int p2), .val (.int p3), .val (.int p4), .val (.int p5), .val (.int (p4 &&& (3 : Int32))), .val (.int ((p5 &&& (255 : Int32)) % (3 : Int32))), .val (.int (((XT.ushr p5 (8 : Int32)) &&& (255 : Int32)) % (3 : Int32))), .unset, .unset, .unset, .unset] [(.int (XT.ushr p5 (16 : Int32)))])) _
  refine XS.sipush X0.here hx rfl (hb hby at_33) ?_
  show Steps p.tables e below (T0.setTop (mkF m 36 #[.val (.int p1), .val (.int p2), .val (.int p3), .val (.int p4), .val (.int p5), .val (.int (p4 &&& (3 : Int32))), .val (.int ((p5 &&& (255 : Int32)) % (3 : Int32))), .val (.int (((XT.ushr p5 (8 : Int32)) &&& (255 : Int32)) % (3 : Int32))), .unset, .unset, .unset, .unset] [(.int (255 : Int32)), (.int (XT.ushr p5 (16 : Int32)))])) _
  refine XS.iand X0.here hx rfl (hb hby at_36) rfl ?_
  show Steps p.tables e below (T0.setTop (mkF m 37 #[.val (.int p1), .val (.int p2), .val (.int p3), .val (.int p4), .val (.int p5), .val (.int (p4 &&& (3 : Int32))), .val (.int ((p5 &&& (255 : Int32)) % (3 : Int32))), .val (.int (((XT.ushr p5 (8 : Int32)) &&& (255 : Int32)) % (3 : Int32))), .unset, .unset, .unset, .unset] [(.int ((XT.ushr p5 (16 : Int32)) &&& (255 : Int32)))])) _
  refine XS.iconst X0.here hx rfl (hb hby at_37) ?_
  show Steps p.tables e below (T0.setTop (mkF m 38 #[.val (.int p1), .val (.int p2), .val (.int p3), .val (.int p4), .val (.int p5), .val (.int (p4 &&& (3 : Int32))), .val (.int ((p5 &&& (255 : Int32)) % (3 : Int32))), .val (.int (((XT.ushr p5 (8 : Int32)) &&& (255 : Int32)) % (3 : Int32))), .unset, .unset, .unset, .unset] [(.int (3 : Int32)), (.int ((XT.ushr p5 (16 : Int32)) &&& (255 : Int32)))])) _
  refine iremM (g := (mkF m 38 #[.val (.int p1), .val (.int p2), .val (.int p3), .val (.int p4), .val (.int p5), .val (.int (p4 &&& (3 : Int32))), .val (.int ((p5 &&& (255 : Int32)) % (3 : Int32))), .val (.int (((XT.ushr p5 (8 : Int32)) &&& (255 : Int32)) % (3 : Int32))), .unset, .unset, .unset, .unset] [(.int (3 : Int32)), (.int ((XT.ushr p5 (16 : Int32)) &&& (255 : Int32)))])) X0 hx rfl (hb hby at_38) rfl (by decide) ?_
  show Steps p.tables e below (T0.setTop (mkF m 39 #[.val (.int p1), .val (.int p2), .val (.int p3), .val (.int p4), .val (.int p5), .val (.int (p4 &&& (3 : Int32))), .val (.int ((p5 &&& (255 : Int32)) % (3 : Int32))), .val (.int (((XT.ushr p5 (8 : Int32)) &&& (255 : Int32)) % (3 : Int32))), .unset, .unset, .unset, .unset] [(.int (((XT.ushr p5 (16 : Int32)) &&& (255 : Int32)) % (3 : Int32)))])) _
  refine XS.istore X0.here hx rfl (hb hby at_39) rfl (l' := #[.val (.int p1), .val (.int p2), .val (.int p3), .val (.int p4), .val (.int p5), .val (.int (p4 &&& (3 : Int32))), .val (.int ((p5 &&& (255 : Int32)) % (3 : Int32))), .val (.int (((XT.ushr p5 (8 : Int32)) &&& (255 : Int32)) % (3 : Int32))), .val (.int (((XT.ushr p5 (16 : Int32)) &&& (255 : Int32)) % (3 : Int32))), .unset, .unset, .unset]) rfl ?_
  show Steps p.tables e below (T0.setTop (mkF m 41 #[.val (.int p1), .val (.int p2), .val (.int p3), .val (.int p4), .val (.int p5), .val (.int (p4 &&& (3 : Int32))), .val (.int ((p5 &&& (255 : Int32)) % (3 : Int32))), .val (.int (((XT.ushr p5 (8 : Int32)) &&& (255 : Int32)) % (3 : Int32))), .val (.int (((XT.ushr p5 (16 : Int32)) &&& (255 : Int32)) % (3 : Int32))), .unset, .unset, .unset] [])) _
  refine XS.iconst X0.here hx rfl (hb hby at_41) ?_
  exact kt
set_option maxRecDepth 65536 in
set_option maxHeartbeats 40000000 in
theorem fill_0 {p : Program} {l : Launch} {e : Env} {s : State} {m : MethodId} {args : Array Value} {below : List Frame} {meth : Method} {c : Code} {T0 : State} {locs : List Loc} {Z : State} {a0 : Array Value} {h0 : Heap} {n0 : Nat} (p1 p2 p3 p4 p5 : Int32) (d0 d1 d2 : Nat)
    (X0 : Stand p l e room_1 s m args below meth c T0 locs 0 0) (hx : p.tables.exec = Jvm.exec) (hZ : Z.Warmed39 s.vm) (hw : ∀ d ∈ tables_1, d.before a0 Z = true) (hby : c.code = code) (hown : s.vm.findClass "com/example/syngraft/syngraft/core/DiffTreeNumbersOfPinLaw" = some m.cls) (e0 : T0.heap = h0) (Z0 : n0 ≤ h0.size) (N0 : Fr n0 locs) :
    ∃ (T' : State) (h' : Heap) (o1 o2 : Addr) (locs' : List Loc), Stand p l e room_1 s m args below meth c T' locs' 2 6 ∧ T'.heap = h' ∧ Fr n0 locs' ∧ n0 ≤ h'.size ∧ AF Z h' o1 .int 3 (fun j => .int (own_N p1 p2 p3 j)) ∧ AF Z h' o2 .int 0 (fun j => .int (Int32.ofNat (own_d d0 d1 d2 j))) ∧
      ∀ target, Steps p.tables e below (T'.setTop (mkF m 99 #[.val (.int p1), .val (.int p2), .val (.int p3), .val (.int p4), .val (.int p5), .val (.int (0 : Int32)), .val (.int (Int32.ofNat d0)), .val (.int (Int32.ofNat d1)), .val (.int (Int32.ofNat d2)), .val (.ref o1), .val (.ref o2), .unset] [])) target → Steps p.tables e below (T0.setTop (mkF m 42 #[.val (.int p1), .val (.int p2), .val (.int p3), .val (.int p4), .val (.int p5), .val (.int (0 : Int32)), .val (.int (Int32.ofNat d0)), .val (.int (Int32.ofNat d1)), .val (.int (Int32.ofNat d2)), .unset, .unset, .unset] [(.int (3 : Int32))])) target := by
  obtain ⟨T1, h1, k1, X1, e1, E1, A1, st1⟩ := newP X0 hx hZ (hw _ (List.mem_of_getElem? (i := 0) rfl)) e0 (g := (mkF m 42 #[.val (.int p1), .val (.int p2), .val (.int p3), .val (.int p4), .val (.int p5), .val (.int (0 : Int32)), .val (.int (Int32.ofNat d0)), .val (.int (Int32.ofNat d1)), .val (.int (Int32.ofNat d2)), .unset, .unset, .unset] [(.int (3 : Int32))])) rfl (hb hby at_42) rfl (by decide) (cap := 3) (by decide) (by decide) (by decide) (by decide)
  have V1_1 : AF Z h1 h0.size .int 3 (fun _ => .int 0) := AF.new A1 (by decide)
  have g1 : n0 ≤ h0.size := Z0
  have Z1 : n0 ≤ h1.size := Nat.le_trans Z0 E1.1
  obtain ⟨c2, Ar2, S2, H2⟩ := V1_1
  obtain ⟨T2, h2, X2, e2, W2, st2⟩ := stI X1 hx hZ e1 Ar2 (j := (0 : Int32)) (by rw [S2]; decide) (g := (mkF m 47 #[.val (.int p1), .val (.int p2), .val (.int p3), .val (.int p4), .val (.int p5), .val (.int (0 : Int32)), .val (.int (Int32.ofNat d0)), .val (.int (Int32.ofNat d1)), .val (.int (Int32.ofNat d2)), .unset, .unset, .unset] [(.int p1), (.int (0 : Int32)), (.ref h0.size), (.ref h0.size)])) rfl rfl (hb hby at_47)
  have N2 := Fr.snoc X2 N0 g1
  have V1_2 := AF.set (⟨c2, Ar2, S2, H2⟩ : AF Z h1 h0.size .int 3 _) W2
  have Z2 : n0 ≤ h2.size := by rw [W2.size]; exact Z1
  obtain ⟨c3, Ar3, S3, H3⟩ := V1_2
  obtain ⟨T3, h3, X3, e3, W3, st3⟩ := stI X2 hx hZ e2 Ar3 (j := (1 : Int32)) (by rw [S3]; decide) (g := (mkF m 51 #[.val (.int p1), .val (.int p2), .val (.int p3), .val (.int p4), .val (.int p5), .val (.int (0 : Int32)), .val (.int (Int32.ofNat d0)), .val (.int (Int32.ofNat d1)), .val (.int (Int32.ofNat d2)), .unset, .unset, .unset] [(.int p2), (.int (1 : Int32)), (.ref h0.size), (.ref h0.size)])) rfl rfl (hb hby at_51)
  have N3 := Fr.snoc X3 N2 g1
  have V1_3 := AF.set (⟨c3, Ar3, S3, H3⟩ : AF Z h2 h0.size .int 3 _) W3
  have Z3 : n0 ≤ h3.size := by rw [W3.size]; exact Z2
  obtain ⟨c4, Ar4, S4, H4⟩ := V1_3
  obtain ⟨T4, h4, X4, e4, W4, st4⟩ := stI X3 hx hZ e3 Ar4 (j := (2 : Int32)) (by rw [S4]; decide) (g := (mkF m 55 #[.val (.int p1), .val (.int p2), .val (.int p3), .val (.int p4), .val (.int p5), .val (.int (0 : Int32)), .val (.int (Int32.ofNat d0)), .val (.int (Int32.ofNat d1)), .val (.int (Int32.ofNat d2)), .unset, .unset, .unset] [(.int p3), (.int (2 : Int32)), (.ref h0.size), (.ref h0.size)])) rfl rfl (hb hby at_55)
  have N4 := Fr.snoc X4 N3 g1
  have V1_4 := AF.set (⟨c4, Ar4, S4, H4⟩ : AF Z h3 h0.size .int 3 _) W4
  have Z4 : n0 ≤ h4.size := by rw [W4.size]; exact Z3
  obtain ⟨T5, h5, k5, X5, e5, E5, A5, st5⟩ := newP X4 hx hZ (hw _ (List.mem_of_getElem? (i := 0) rfl)) e4 (g := (mkF m 60 #[.val (.int p1), .val (.int p2), .val (.int p3), .val (.int p4), .val (.int p5), .val (.int (0 : Int32)), .val (.int (Int32.ofNat d0)), .val (.int (Int32.ofNat d1)), .val (.int (Int32.ofNat d2)), .val (.ref h0.size), .unset, .unset] [(.int (0 : Int32))])) rfl (hb hby at_60) rfl (by decide) (cap := 3) (by decide) (by decide) (by decide) (by decide)
  have V2_5 : AF Z h5 h4.size .int 0 (fun _ => .int 0) := AF.new A5 (by decide)
  have V1_5 := V1_4.ext E5
  have ne12 : h0.size ≠ h4.size := Nat.ne_of_lt V1_4.lt
  have g2 : n0 ≤ h4.size := Z4
  have Z5 : n0 ≤ h5.size := Nat.le_trans Z4 E5.1
  have F1 : AF Z h5 h0.size .int 3 (fun j => .int (own_N p1 p2 p3 j)) := V1_5.congr (fun j hj => by
    match j, hj with
    | 0, _ => rfl
    | 1, _ => rfl
    | 2, _ => rfl)
  have F2 : AF Z h5 h4.size .int 0 (fun j => .int (Int32.ofNat (own_d d0 d1 d2 j))) := V2_5.congr (fun j hj => absurd hj (Nat.not_lt_zero j))
  refine ⟨T5, h5, h0.size, h4.size, _, X5, e5, N4, Z5, F1, F2, fun target kt => ?_⟩
  show Steps p.tables e below (T0.setTop (mkF m 42 #[.val (.int p1), .val (.int p2), .val (.int p3), .val (.int p4), .val (.int p5), .val (.int (0 : Int32)), .val (.int (Int32.ofNat d0)), .val (.int (Int32.ofNat d1)), .val (.int (Int32.ofNat d2)), .unset, .unset, .unset] [(.int (3 : Int32))])) _
  refine st1 _ ?_
  show Steps p.tables e below (T1.setTop (mkF m 44 #[.val (.int p1), .val (.int p2), .val (.int p3), .val (.int p4), .val (.int p5), .val (.int (0 : Int32)), .val (.int (Int32.ofNat d0)), .val (.int (Int32.ofNat d1)), .val (.int (Int32.ofNat d2)), .unset, .unset, .unset] [(.ref h0.size)])) _
  refine XS.dup X1.here hx rfl (hb hby at_44) rfl rfl ?_
  show Steps p.tables e below (T1.setTop (mkF m 45 #[.val (.int p1), .val (.int p2), .val (.int p3), .val (.int p4), .val (.int p5), .val (.int (0 : Int32)), .val (.int (Int32.ofNat d0)), .val (.int (Int32.ofNat d1)), .val (.int (Int32.ofNat d2)), .unset, .unset, .unset] [(.ref h0.size), (.ref h0.size)])) _
  refine XS.iconst X1.here hx rfl (hb hby at_45) ?_
  show Steps p.tables e below (T1.setTop (mkF m 46 #[.val (.int p1), .val (.int p2), .val (.int p3), .val (.int p4), .val (.int p5), .val (.int (0 : Int32)), .val (.int (Int32.ofNat d0)), .val (.int (Int32.ofNat d1)), .val (.int (Int32.ofNat d2)), .unset, .unset, .unset] [(.int (0 : Int32)), (.ref h0.size), (.ref h0.size)])) _
  refine XS.iloadN X1.here hx rfl (hb hby at_46) rfl ?_
  show Steps p.tables e below (T1.setTop (mkF m 47 #[.val (.int p1), .val (.int p2), .val (.int p3), .val (.int p4), .val (.int p5), .val (.int (0 : Int32)), .val (.int (Int32.ofNat d0)), .val (.int (Int32.ofNat d1)), .val (.int (Int32.ofNat d2)), .unset, .unset, .unset] [(.int p1), (.int (0 : Int32)), (.ref h0.size), (.ref h0.size)])) _
  refine st2 _ ?_
  show Steps p.tables e below (T2.setTop (mkF m 48 #[.val (.int p1), .val (.int p2), .val (.int p3), .val (.int p4), .val (.int p5), .val (.int (0 : Int32)), .val (.int (Int32.ofNat d0)), .val (.int (Int32.ofNat d1)), .val (.int (Int32.ofNat d2)), .unset, .unset, .unset] [(.ref h0.size)])) _
  refine XS.dup X2.here hx rfl (hb hby at_48) rfl rfl ?_
  show Steps p.tables e below (T2.setTop (mkF m 49 #[.val (.int p1), .val (.int p2), .val (.int p3), .val (.int p4), .val (.int p5), .val (.int (0 : Int32)), .val (.int (Int32.ofNat d0)), .val (.int (Int32.ofNat d1)), .val (.int (Int32.ofNat d2)), .unset, .unset, .unset] [(.ref h0.size), (.ref h0.size)])) _
  refine XS.iconst X2.here hx rfl (hb hby at_49) ?_
  show Steps p.tables e below (T2.setTop (mkF m 50 #[.val (.int p1), .val (.int p2), .val (.int p3), .val (.int p4), .val (.int p5), .val (.int (0 : Int32)), .val (.int (Int32.ofNat d0)), .val (.int (Int32.ofNat d1)), .val (.int (Int32.ofNat d2)), .unset, .unset, .unset] [(.int (1 : Int32)), (.ref h0.size), (.ref h0.size)])) _
  refine XS.iloadN X2.here hx rfl (hb hby at_50) rfl ?_
  show Steps p.tables e below (T2.setTop (mkF m 51 #[.val (.int p1), .val (.int p2), .val (.int p3), .val (.int p4), .val (.int p5), .val (.int (0 : Int32)), .val (.int (Int32.ofNat d0)), .val (.int (Int32.ofNat d1)), .val (.int (Int32.ofNat d2)), .unset, .unset, .unset] [(.int p2), (.int (1 : Int32)), (.ref h0.size), (.ref h0.size)])) _
  refine st3 _ ?_
  show Steps p.tables e below (T3.setTop (mkF m 52 #[.val (.int p1), .val (.int p2), .val (.int p3), .val (.int p4), .val (.int p5), .val (.int (0 : Int32)), .val (.int (Int32.ofNat d0)), .val (.int (Int32.ofNat d1)), .val (.int (Int32.ofNat d2)), .unset, .unset, .unset] [(.ref h0.size)])) _
  refine XS.dup X3.here hx rfl (hb hby at_52) rfl rfl ?_
  show Steps p.tables e below (T3.setTop (mkF m 53 #[.val (.int p1), .val (.int p2), .val (.int p3), .val (.int p4), .val (.int p5), .val (.int (0 : Int32)), .val (.int (Int32.ofNat d0)), .val (.int (Int32.ofNat d1)), .val (.int (Int32.ofNat d2)), .unset, .unset, .unset] [(.ref h0.size), (.ref h0.size)])) _
  refine XS.iconst X3.here hx rfl (hb hby at_53) ?_
  show Steps p.tables e below (T3.setTop (mkF m 54 #[.val (.int p1), .val (.int p2), .val (.int p3), .val (.int p4), .val (.int p5), .val (.int (0 : Int32)), .val (.int (Int32.ofNat d0)), .val (.int (Int32.ofNat d1)), .val (.int (Int32.ofNat d2)), .unset, .unset, .unset] [(.int (2 : Int32)), (.ref h0.size), (.ref h0.size)])) _
  refine XS.iloadN X3.here hx rfl (hb hby at_54) rfl ?_
  show Steps p.tables e below (T3.setTop (mkF m 55 #[.val (.int p1), .val (.int p2), .val (.int p3), .val (.int p4), .val (.int p5), .val (.int (0 : Int32)), .val (.int (Int32.ofNat d0)), .val (.int (Int32.ofNat d1)), .val (.int (Int32.ofNat d2)), .unset, .unset, .unset] [(.int p3), (.int (2 : Int32)), (.ref h0.size), (.ref h0.size)])) _
  refine st4 _ ?_
  show Steps p.tables e below (T4.setTop (mkF m 56 #[.val (.int p1), .val (.int p2), .val (.int p3), .val (.int p4), .val (.int p5), .val (.int (0 : Int32)), .val (.int (Int32.ofNat d0)), .val (.int (Int32.ofNat d1)), .val (.int (Int32.ofNat d2)), .unset, .unset, .unset] [(.ref h0.size)])) _
  refine XS.astore X4.here hx rfl (hb hby at_56) rfl rfl (l' := #[.val (.int p1), .val (.int p2), .val (.int p3), .val (.int p4), .val (.int p5), .val (.int (0 : Int32)), .val (.int (Int32.ofNat d0)), .val (.int (Int32.ofNat d1)), .val (.int (Int32.ofNat d2)), .val (.ref h0.size), .unset, .unset]) rfl ?_
  show Steps p.tables e below (T4.setTop (mkF m 58 #[.val (.int p1), .val (.int p2), .val (.int p3), .val (.int p4), .val (.int p5), .val (.int (0 : Int32)), .val (.int (Int32.ofNat d0)), .val (.int (Int32.ofNat d1)), .val (.int (Int32.ofNat d2)), .val (.ref h0.size), .unset, .unset] [])) _
  refine XS.iload X4.here hx rfl (hb hby at_58) rfl ?_
  show Steps p.tables e below (T4.setTop (mkF m 60 #[.val (.int p1), .val (.int p2), .val (.int p3), .val (.int p4), .val (.int p5), .val (.int (0 : Int32)), .val (.int (Int32.ofNat d0)), .val (.int (Int32.ofNat d1)), .val (.int (Int32.ofNat d2)), .val (.ref h0.size), .unset, .unset] [(.int (0 : Int32))])) _
  refine st5 _ ?_
  show Steps p.tables e below (T5.setTop (mkF m 62 #[.val (.int p1), .val (.int p2), .val (.int p3), .val (.int p4), .val (.int p5), .val (.int (0 : Int32)), .val (.int (Int32.ofNat d0)), .val (.int (Int32.ofNat d1)), .val (.int (Int32.ofNat d2)), .val (.ref h0.size), .unset, .unset] [(.ref h4.size)])) _
  refine XS.astore X5.here hx rfl (hb hby at_62) rfl rfl (l' := #[.val (.int p1), .val (.int p2), .val (.int p3), .val (.int p4), .val (.int p5), .val (.int (0 : Int32)), .val (.int (Int32.ofNat d0)), .val (.int (Int32.ofNat d1)), .val (.int (Int32.ofNat d2)), .val (.ref h0.size), .val (.ref h4.size), .unset]) rfl ?_
  show Steps p.tables e below (T5.setTop (mkF m 64 #[.val (.int p1), .val (.int p2), .val (.int p3), .val (.int p4), .val (.int p5), .val (.int (0 : Int32)), .val (.int (Int32.ofNat d0)), .val (.int (Int32.ofNat d1)), .val (.int (Int32.ofNat d2)), .val (.ref h0.size), .val (.ref h4.size), .unset] [])) _
  refine XS.iload X5.here hx rfl (hb hby at_64) rfl ?_
  show Steps p.tables e below (T5.setTop (mkF m 66 #[.val (.int p1), .val (.int p2), .val (.int p3), .val (.int p4), .val (.int p5), .val (.int (0 : Int32)), .val (.int (Int32.ofNat d0)), .val (.int (Int32.ofNat d1)), .val (.int (Int32.ofNat d2)), .val (.ref h0.size), .val (.ref h4.size), .unset] [(.int (0 : Int32))])) _
  refine XS.ifYes X5.here hx rfl (pc0 := 66) (pc' := 75) rfl (hb hby at_66) rfl ((if0 _ _).trans (flt (by decide)).2.2.2) (by decide) (by decide) ?_
  show Steps p.tables e below (T5.setTop (mkF m 75 #[.val (.int p1), .val (.int p2), .val (.int p3), .val (.int p4), .val (.int p5), .val (.int (0 : Int32)), .val (.int (Int32.ofNat d0)), .val (.int (Int32.ofNat d1)), .val (.int (Int32.ofNat d2)), .val (.ref h0.size), .val (.ref h4.size), .unset] [])) _
  refine XS.iload X5.here hx rfl (hb hby at_75) rfl ?_
  show Steps p.tables e below (T5.setTop (mkF m 77 #[.val (.int p1), .val (.int p2), .val (.int p3), .val (.int p4), .val (.int p5), .val (.int (0 : Int32)), .val (.int (Int32.ofNat d0)), .val (.int (Int32.ofNat d1)), .val (.int (Int32.ofNat d2)), .val (.ref h0.size), .val (.ref h4.size), .unset] [(.int (0 : Int32))])) _
  refine XS.iconst X5.here hx rfl (hb hby at_77) ?_
  show Steps p.tables e below (T5.setTop (mkF m 78 #[.val (.int p1), .val (.int p2), .val (.int p3), .val (.int p4), .val (.int p5), .val (.int (0 : Int32)), .val (.int (Int32.ofNat d0)), .val (.int (Int32.ofNat d1)), .val (.int (Int32.ofNat d2)), .val (.ref h0.size), .val (.ref h4.size), .unset] [(.int (1 : Int32)), (.int (0 : Int32))])) _
  refine XS.icmpYes X5.here hx rfl (pc0 := 78) (pc' := 87) rfl (hb hby at_78) rfl (flt (by decide)).2.2.2 (by decide) (by decide) ?_
  show Steps p.tables e below (T5.setTop (mkF m 87 #[.val (.int p1), .val (.int p2), .val (.int p3), .val (.int p4), .val (.int p5), .val (.int (0 : Int32)), .val (.int (Int32.ofNat d0)), .val (.int (Int32.ofNat d1)), .val (.int (Int32.ofNat d2)), .val (.ref h0.size), .val (.ref h4.size), .unset] [])) _
  refine XS.iload X5.here hx rfl (hb hby at_87) rfl ?_
  show Steps p.tables e below (T5.setTop (mkF m 89 #[.val (.int p1), .val (.int p2), .val (.int p3), .val (.int p4), .val (.int p5), .val (.int (0 : Int32)), .val (.int (Int32.ofNat d0)), .val (.int (Int32.ofNat d1)), .val (.int (Int32.ofNat d2)), .val (.ref h0.size), .val (.ref h4.size), .unset] [(.int (0 : Int32))])) _
  refine XS.iconst X5.here hx rfl (hb hby at_89) ?_
  show Steps p.tables e below (T5.setTop (mkF m 90 #[.val (.int p1), .val (.int p2), .val (.int p3), .val (.int p4), .val (.int p5), .val (.int (0 : Int32)), .val (.int (Int32.ofNat d0)), .val (.int (Int32.ofNat d1)), .val (.int (Int32.ofNat d2)), .val (.ref h0.size), .val (.ref h4.size), .unset] [(.int (2 : Int32)), (.int (0 : Int32))])) _
  refine XS.icmpYes X5.here hx rfl (pc0 := 90) (pc' := 99) rfl (hb hby at_90) rfl (flt (by decide)).2.2.2 (by decide) (by decide) ?_
  exact kt
set_option maxRecDepth 65536 in
set_option maxHeartbeats 40000000 in
theorem fill_1 {p : Program} {l : Launch} {e : Env} {s : State} {m : MethodId} {args : Array Value} {below : List Frame} {meth : Method} {c : Code} {T0 : State} {locs : List Loc} {Z : State} {a0 : Array Value} {h0 : Heap} {n0 : Nat} (p1 p2 p3 p4 p5 : Int32) (d0 d1 d2 : Nat)
    (X0 : Stand p l e room_1 s m args below meth c T0 locs 0 0) (hx : p.tables.exec = Jvm.exec) (hZ : Z.Warmed39 s.vm) (hw : ∀ d ∈ tables_1, d.before a0 Z = true) (hby : c.code = code) (hown : s.vm.findClass "com/example/syngraft/syngraft/core/DiffTreeNumbersOfPinLaw" = some m.cls) (e0 : T0.heap = h0) (Z0 : n0 ≤ h0.size) (N0 : Fr n0 locs) :
    ∃ (T' : State) (h' : Heap) (o1 o2 : Addr) (locs' : List Loc), Stand p l e room_1 s m args below meth c T' locs' 2 6 ∧ T'.heap = h' ∧ Fr n0 locs' ∧ n0 ≤ h'.size ∧ AF Z h' o1 .int 3 (fun j => .int (own_N p1 p2 p3 j)) ∧ AF Z h' o2 .int 1 (fun j => .int (Int32.ofNat (own_d d0 d1 d2 j))) ∧
      ∀ target, Steps p.tables e below (T'.setTop (mkF m 99 #[.val (.int p1), .val (.int p2), .val (.int p3), .val (.int p4), .val (.int p5), .val (.int (1 : Int32)), .val (.int (Int32.ofNat d0)), .val (.int (Int32.ofNat d1)), .val (.int (Int32.ofNat d2)), .val (.ref o1), .val (.ref o2), .unset] [])) target → Steps p.tables e below (T0.setTop (mkF m 42 #[.val (.int p1), .val (.int p2), .val (.int p3), .val (.int p4), .val (.int p5), .val (.int (1 : Int32)), .val (.int (Int32.ofNat d0)), .val (.int (Int32.ofNat d1)), .val (.int (Int32.ofNat d2)), .unset, .unset, .unset] [(.int (3 : Int32))])) target := by
  obtain ⟨T1, h1, k1, X1, e1, E1, A1, st1⟩ := newP X0 hx hZ (hw _ (List.mem_of_getElem? (i := 0) rfl)) e0 (g := (mkF m 42 #[.val (.int p1), .val (.int p2), .val (.int p3), .val (.int p4), .val (.int p5), .val (.int (1 : Int32)), .val (.int (Int32.ofNat d0)), .val (.int (Int32.ofNat d1)), .val (.int (Int32.ofNat d2)), .unset, .unset, .unset] [(.int (3 : Int32))])) rfl (hb hby at_42) rfl (by decide) (cap := 3) (by decide) (by decide) (by decide) (by decide)
  have V1_1 : AF Z h1 h0.size .int 3 (fun _ => .int 0) := AF.new A1 (by decide)
  have g1 : n0 ≤ h0.size := Z0
  have Z1 : n0 ≤ h1.size := Nat.le_trans Z0 E1.1
  obtain ⟨c2, Ar2, S2, H2⟩ := V1_1
  obtain ⟨T2, h2, X2, e2, W2, st2⟩ := stI X1 hx hZ e1 Ar2 (j := (0 : Int32)) (by rw [S2]; decide) (g := (mkF m 47 #[.val (.int p1), .val (.int p2), .val (.int p3), .val (.int p4), .val (.int p5), .val (.int (1 : Int32)), .val (.int (Int32.ofNat d0)), .val (.int (Int32.ofNat d1)), .val (.int (Int32.ofNat d2)), .unset, .unset, .unset] [(.int p1), (.int (0 : Int32)), (.ref h0.size), (.ref h0.size)])) rfl rfl (hb hby at_47)
  have N2 := Fr.snoc X2 N0 g1
  have V1_2 := AF.set (⟨c2, Ar2, S2, H2⟩ : AF Z h1 h0.size .int 3 _) W2
  have Z2 : n0 ≤ h2.size := by rw [W2.size]; exact Z1
  obtain ⟨c3, Ar3, S3, H3⟩ := V1_2
  obtain ⟨T3, h3, X3, e3, W3, st3⟩ := stI X2 hx hZ e2 Ar3 (j := (1 : Int32)) (by rw [S3]; decide) (g := (mkF m 51 #[.val (.int p1), .val (.int p2), .val (.int p3), .val (.int p4), .val (.int p5), .val (.int (1 : Int32)), .val (.int (Int32.ofNat d0)), .val (.int (Int32.ofNat d1)), .val (.int (Int32.ofNat d2)), .unset, .unset, .unset] [(.int p2), (.int (1 : Int32)), (.ref h0.size), (.ref h0.size)])) rfl rfl (hb hby at_51)
  have N3 := Fr.snoc X3 N2 g1
  have V1_3 := AF.set (⟨c3, Ar3, S3, H3⟩ : AF Z h2 h0.size .int 3 _) W3
  have Z3 : n0 ≤ h3.size := by rw [W3.size]; exact Z2
  obtain ⟨c4, Ar4, S4, H4⟩ := V1_3
  obtain ⟨T4, h4, X4, e4, W4, st4⟩ := stI X3 hx hZ e3 Ar4 (j := (2 : Int32)) (by rw [S4]; decide) (g := (mkF m 55 #[.val (.int p1), .val (.int p2), .val (.int p3), .val (.int p4), .val (.int p5), .val (.int (1 : Int32)), .val (.int (Int32.ofNat d0)), .val (.int (Int32.ofNat d1)), .val (.int (Int32.ofNat d2)), .unset, .unset, .unset] [(.int p3), (.int (2 : Int32)), (.ref h0.size), (.ref h0.size)])) rfl rfl (hb hby at_55)
  have N4 := Fr.snoc X4 N3 g1
  have V1_4 := AF.set (⟨c4, Ar4, S4, H4⟩ : AF Z h3 h0.size .int 3 _) W4
  have Z4 : n0 ≤ h4.size := by rw [W4.size]; exact Z3
  obtain ⟨T5, h5, k5, X5, e5, E5, A5, st5⟩ := newP X4 hx hZ (hw _ (List.mem_of_getElem? (i := 0) rfl)) e4 (g := (mkF m 60 #[.val (.int p1), .val (.int p2), .val (.int p3), .val (.int p4), .val (.int p5), .val (.int (1 : Int32)), .val (.int (Int32.ofNat d0)), .val (.int (Int32.ofNat d1)), .val (.int (Int32.ofNat d2)), .val (.ref h0.size), .unset, .unset] [(.int (1 : Int32))])) rfl (hb hby at_60) rfl (by decide) (cap := 3) (by decide) (by decide) (by decide) (by decide)
  have V2_5 : AF Z h5 h4.size .int 1 (fun _ => .int 0) := AF.new A5 (by decide)
  have V1_5 := V1_4.ext E5
  have ne12 : h0.size ≠ h4.size := Nat.ne_of_lt V1_4.lt
  have g2 : n0 ≤ h4.size := Z4
  have Z5 : n0 ≤ h5.size := Nat.le_trans Z4 E5.1
  obtain ⟨c6, Ar6, S6, H6⟩ := V2_5
  obtain ⟨T6, h6, X6, e6, W6, st6⟩ := stI X5 hx hZ e5 Ar6 (j := (0 : Int32)) (by rw [S6]; decide) (g := (mkF m 74 #[.val (.int p1), .val (.int p2), .val (.int p3), .val (.int p4), .val (.int p5), .val (.int (1 : Int32)), .val (.int (Int32.ofNat d0)), .val (.int (Int32.ofNat d1)), .val (.int (Int32.ofNat d2)), .val (.ref h0.size), .val (.ref h4.size), .unset] [(.int (Int32.ofNat d0)), (.int (0 : Int32)), (.ref h4.size)])) rfl rfl (hb hby at_74)
  have N6 := Fr.snoc X6 N4 g2
  have V2_6 := AF.set (⟨c6, Ar6, S6, H6⟩ : AF Z h5 h4.size .int 1 _) W6
  have V1_6 := V1_5.other W6 ne12
  have Z6 : n0 ≤ h6.size := by rw [W6.size]; exact Z5
  have F1 : AF Z h6 h0.size .int 3 (fun j => .int (own_N p1 p2 p3 j)) := V1_6.congr (fun j hj => by
    match j, hj with
    | 0, _ => rfl
    | 1, _ => rfl
    | 2, _ => rfl)
  have F2 : AF Z h6 h4.size .int 1 (fun j => .int (Int32.ofNat (own_d d0 d1 d2 j))) := V2_6.congr (fun j hj => by
    match j, hj with
    | 0, _ => rfl)
  refine ⟨T6, h6, h0.size, h4.size, _, X6, e6, N6, Z6, F1, F2, fun target kt => ?_⟩
  show Steps p.tables e below (T0.setTop (mkF m 42 #[.val (.int p1), .val (.int p2), .val (.int p3), .val (.int p4), .val (.int p5), .val (.int (1 : Int32)), .val (.int (Int32.ofNat d0)), .val (.int (Int32.ofNat d1)), .val (.int (Int32.ofNat d2)), .unset, .unset, .unset] [(.int (3 : Int32))])) _
  refine st1 _ ?_
  show Steps p.tables e below (T1.setTop (mkF m 44 #[.val (.int p1), .val (.int p2), .val (.int p3), .val (.int p4), .val (.int p5), .val (.int (1 : Int32)), .val (.int (Int32.ofNat d0)), .val (.int (Int32.ofNat d1)), .val (.int (Int32.ofNat d2)), .unset, .unset, .unset] [(.ref h0.size)])) _
  refine XS.dup X1.here hx rfl (hb hby at_44) rfl rfl ?_
  show Steps p.tables e below (T1.setTop (mkF m 45 #[.val (.int p1), .val (.int p2), .val (.int p3), .val (.int p4), .val (.int p5), .val (.int (1 : Int32)), .val (.int (Int32.ofNat d0)), .val (.int (Int32.ofNat d1)), .val (.int (Int32.ofNat d2)), .unset, .unset, .unset] [(.ref h0.size), (.ref h0.size)])) _
  refine XS.iconst X1.here hx rfl (hb hby at_45) ?_
  show Steps p.tables e below (T1.setTop (mkF m 46 #[.val (.int p1), .val (.int p2), .val (.int p3), .val (.int p4), .val (.int p5), .val (.int (1 : Int32)), .val (.int (Int32.ofNat d0)), .val (.int (Int32.ofNat d1)), .val (.int (Int32.ofNat d2)), .unset, .unset, .unset] [(.int (0 : Int32)), (.ref h0.size), (.ref h0.size)])) _
  refine XS.iloadN X1.here hx rfl (hb hby at_46) rfl ?_
  show Steps p.tables e below (T1.setTop (mkF m 47 #[.val (.int p1), .val (.int p2), .val (.int p3), .val (.int p4), .val (.int p5), .val (.int (1 : Int32)), .val (.int (Int32.ofNat d0)), .val (.int (Int32.ofNat d1)), .val (.int (Int32.ofNat d2)), .unset, .unset, .unset] [(.int p1), (.int (0 : Int32)), (.ref h0.size), (.ref h0.size)])) _
  refine st2 _ ?_
  show Steps p.tables e below (T2.setTop (mkF m 48 #[.val (.int p1), .val (.int p2), .val (.int p3), .val (.int p4), .val (.int p5), .val (.int (1 : Int32)), .val (.int (Int32.ofNat d0)), .val (.int (Int32.ofNat d1)), .val (.int (Int32.ofNat d2)), .unset, .unset, .unset] [(.ref h0.size)])) _
  refine XS.dup X2.here hx rfl (hb hby at_48) rfl rfl ?_
  show Steps p.tables e below (T2.setTop (mkF m 49 #[.val (.int p1), .val (.int p2), .val (.int p3), .val (.int p4), .val (.int p5), .val (.int (1 : Int32)), .val (.int (Int32.ofNat d0)), .val (.int (Int32.ofNat d1)), .val (.int (Int32.ofNat d2)), .unset, .unset, .unset] [(.ref h0.size), (.ref h0.size)])) _
  refine XS.iconst X2.here hx rfl (hb hby at_49) ?_
  show Steps p.tables e below (T2.setTop (mkF m 50 #[.val (.int p1), .val (.int p2), .val (.int p3), .val (.int p4), .val (.int p5), .val (.int (1 : Int32)), .val (.int (Int32.ofNat d0)), .val (.int (Int32.ofNat d1)), .val (.int (Int32.ofNat d2)), .unset, .unset, .unset] [(.int (1 : Int32)), (.ref h0.size), (.ref h0.size)])) _
  refine XS.iloadN X2.here hx rfl (hb hby at_50) rfl ?_
  show Steps p.tables e below (T2.setTop (mkF m 51 #[.val (.int p1), .val (.int p2), .val (.int p3), .val (.int p4), .val (.int p5), .val (.int (1 : Int32)), .val (.int (Int32.ofNat d0)), .val (.int (Int32.ofNat d1)), .val (.int (Int32.ofNat d2)), .unset, .unset, .unset] [(.int p2), (.int (1 : Int32)), (.ref h0.size), (.ref h0.size)])) _
  refine st3 _ ?_
  show Steps p.tables e below (T3.setTop (mkF m 52 #[.val (.int p1), .val (.int p2), .val (.int p3), .val (.int p4), .val (.int p5), .val (.int (1 : Int32)), .val (.int (Int32.ofNat d0)), .val (.int (Int32.ofNat d1)), .val (.int (Int32.ofNat d2)), .unset, .unset, .unset] [(.ref h0.size)])) _
  refine XS.dup X3.here hx rfl (hb hby at_52) rfl rfl ?_
  show Steps p.tables e below (T3.setTop (mkF m 53 #[.val (.int p1), .val (.int p2), .val (.int p3), .val (.int p4), .val (.int p5), .val (.int (1 : Int32)), .val (.int (Int32.ofNat d0)), .val (.int (Int32.ofNat d1)), .val (.int (Int32.ofNat d2)), .unset, .unset, .unset] [(.ref h0.size), (.ref h0.size)])) _
  refine XS.iconst X3.here hx rfl (hb hby at_53) ?_
  show Steps p.tables e below (T3.setTop (mkF m 54 #[.val (.int p1), .val (.int p2), .val (.int p3), .val (.int p4), .val (.int p5), .val (.int (1 : Int32)), .val (.int (Int32.ofNat d0)), .val (.int (Int32.ofNat d1)), .val (.int (Int32.ofNat d2)), .unset, .unset, .unset] [(.int (2 : Int32)), (.ref h0.size), (.ref h0.size)])) _
  refine XS.iloadN X3.here hx rfl (hb hby at_54) rfl ?_
  show Steps p.tables e below (T3.setTop (mkF m 55 #[.val (.int p1), .val (.int p2), .val (.int p3), .val (.int p4), .val (.int p5), .val (.int (1 : Int32)), .val (.int (Int32.ofNat d0)), .val (.int (Int32.ofNat d1)), .val (.int (Int32.ofNat d2)), .unset, .unset, .unset] [(.int p3), (.int (2 : Int32)), (.ref h0.size), (.ref h0.size)])) _
  refine st4 _ ?_
  show Steps p.tables e below (T4.setTop (mkF m 56 #[.val (.int p1), .val (.int p2), .val (.int p3), .val (.int p4), .val (.int p5), .val (.int (1 : Int32)), .val (.int (Int32.ofNat d0)), .val (.int (Int32.ofNat d1)), .val (.int (Int32.ofNat d2)), .unset, .unset, .unset] [(.ref h0.size)])) _
  refine XS.astore X4.here hx rfl (hb hby at_56) rfl rfl (l' := #[.val (.int p1), .val (.int p2), .val (.int p3), .val (.int p4), .val (.int p5), .val (.int (1 : Int32)), .val (.int (Int32.ofNat d0)), .val (.int (Int32.ofNat d1)), .val (.int (Int32.ofNat d2)), .val (.ref h0.size), .unset, .unset]) rfl ?_
  show Steps p.tables e below (T4.setTop (mkF m 58 #[.val (.int p1), .val (.int p2), .val (.int p3), .val (.int p4), .val (.int p5), .val (.int (1 : Int32)), .val (.int (Int32.ofNat d0)), .val (.int (Int32.ofNat d1)), .val (.int (Int32.ofNat d2)), .val (.ref h0.size), .unset, .unset] [])) _
  refine XS.iload X4.here hx rfl (hb hby at_58) rfl ?_
  show Steps p.tables e below (T4.setTop (mkF m 60 #[.val (.int p1), .val (.int p2), .val (.int p3), .val (.int p4), .val (.int p5), .val (.int (1 : Int32)), .val (.int (Int32.ofNat d0)), .val (.int (Int32.ofNat d1)), .val (.int (Int32.ofNat d2)), .val (.ref h0.size), .unset, .unset] [(.int (1 : Int32))])) _
  refine st5 _ ?_
  show Steps p.tables e below (T5.setTop (mkF m 62 #[.val (.int p1), .val (.int p2), .val (.int p3), .val (.int p4), .val (.int p5), .val (.int (1 : Int32)), .val (.int (Int32.ofNat d0)), .val (.int (Int32.ofNat d1)), .val (.int (Int32.ofNat d2)), .val (.ref h0.size), .unset, .unset] [(.ref h4.size)])) _
  refine XS.astore X5.here hx rfl (hb hby at_62) rfl rfl (l' := #[.val (.int p1), .val (.int p2), .val (.int p3), .val (.int p4), .val (.int p5), .val (.int (1 : Int32)), .val (.int (Int32.ofNat d0)), .val (.int (Int32.ofNat d1)), .val (.int (Int32.ofNat d2)), .val (.ref h0.size), .val (.ref h4.size), .unset]) rfl ?_
  show Steps p.tables e below (T5.setTop (mkF m 64 #[.val (.int p1), .val (.int p2), .val (.int p3), .val (.int p4), .val (.int p5), .val (.int (1 : Int32)), .val (.int (Int32.ofNat d0)), .val (.int (Int32.ofNat d1)), .val (.int (Int32.ofNat d2)), .val (.ref h0.size), .val (.ref h4.size), .unset] [])) _
  refine XS.iload X5.here hx rfl (hb hby at_64) rfl ?_
  show Steps p.tables e below (T5.setTop (mkF m 66 #[.val (.int p1), .val (.int p2), .val (.int p3), .val (.int p4), .val (.int p5), .val (.int (1 : Int32)), .val (.int (Int32.ofNat d0)), .val (.int (Int32.ofNat d1)), .val (.int (Int32.ofNat d2)), .val (.ref h0.size), .val (.ref h4.size), .unset] [(.int (1 : Int32))])) _
  refine XS.ifNo X5.here hx rfl (hb hby at_66) rfl ((if0 _ _).trans (tlt (by decide)).2.2.2) ?_
  show Steps p.tables e below (T5.setTop (mkF m 69 #[.val (.int p1), .val (.int p2), .val (.int p3), .val (.int p4), .val (.int p5), .val (.int (1 : Int32)), .val (.int (Int32.ofNat d0)), .val (.int (Int32.ofNat d1)), .val (.int (Int32.ofNat d2)), .val (.ref h0.size), .val (.ref h4.size), .unset] [])) _
  refine XS.aload X5.here hx rfl (hb hby at_69) rfl rfl ?_
  show Steps p.tables e below (T5.setTop (mkF m 71 #[.val (.int p1), .val (.int p2), .val (.int p3), .val (.int p4), .val (.int p5), .val (.int (1 : Int32)), .val (.int (Int32.ofNat d0)), .val (.int (Int32.ofNat d1)), .val (.int (Int32.ofNat d2)), .val (.ref h0.size), .val (.ref h4.size), .unset] [(.ref h4.size)])) _
  refine XS.iconst X5.here hx rfl (hb hby at_71) ?_
  show Steps p.tables e below (T5.setTop (mkF m 72 #[.val (.int p1), .val (.int p2), .val (.int p3), .val (.int p4), .val (.int p5), .val (.int (1 : Int32)), .val (.int (Int32.ofNat d0)), .val (.int (Int32.ofNat d1)), .val (.int (Int32.ofNat d2)), .val (.ref h0.size), .val (.ref h4.size), .unset] [(.int (0 : Int32)), (.ref h4.size)])) _
  refine XS.iload X5.here hx rfl (hb hby at_72) rfl ?_
  show Steps p.tables e below (T5.setTop (mkF m 74 #[.val (.int p1), .val (.int p2), .val (.int p3), .val (.int p4), .val (.int p5), .val (.int (1 : Int32)), .val (.int (Int32.ofNat d0)), .val (.int (Int32.ofNat d1)), .val (.int (Int32.ofNat d2)), .val (.ref h0.size), .val (.ref h4.size), .unset] [(.int (Int32.ofNat d0)), (.int (0 : Int32)), (.ref h4.size)])) _
  refine st6 _ ?_
  show Steps p.tables e below (T6.setTop (mkF m 75 #[.val (.int p1), .val (.int p2), .val (.int p3), .val (.int p4), .val (.int p5), .val (.int (1 : Int32)), .val (.int (Int32.ofNat d0)), .val (.int (Int32.ofNat d1)), .val (.int (Int32.ofNat d2)), .val (.ref h0.size), .val (.ref h4.size), .unset] [])) _
  refine XS.iload X6.here hx rfl (hb hby at_75) rfl ?_
  show Steps p.tables e below (T6.setTop (mkF m 77 #[.val (.int p1), .val (.int p2), .val (.int p3), .val (.int p4), .val (.int p5), .val (.int (1 : Int32)), .val (.int (Int32.ofNat d0)), .val (.int (Int32.ofNat d1)), .val (.int (Int32.ofNat d2)), .val (.ref h0.size), .val (.ref h4.size), .unset] [(.int (1 : Int32))])) _
  refine XS.iconst X6.here hx rfl (hb hby at_77) ?_
  show Steps p.tables e below (T6.setTop (mkF m 78 #[.val (.int p1), .val (.int p2), .val (.int p3), .val (.int p4), .val (.int p5), .val (.int (1 : Int32)), .val (.int (Int32.ofNat d0)), .val (.int (Int32.ofNat d1)), .val (.int (Int32.ofNat d2)), .val (.ref h0.size), .val (.ref h4.size), .unset] [(.int (1 : Int32)), (.int (1 : Int32))])) _
  refine XS.icmpYes X6.here hx rfl (pc0 := 78) (pc' := 87) rfl (hb hby at_78) rfl (flt (by decide)).2.2.2 (by decide) (by decide) ?_
  show Steps p.tables e below (T6.setTop (mkF m 87 #[.val (.int p1), .val (.int p2), .val (.int p3), .val (.int p4), .val (.int p5), .val (.int (1 : Int32)), .val (.int (Int32.ofNat d0)), .val (.int (Int32.ofNat d1)), .val (.int (Int32.ofNat d2)), .val (.ref h0.size), .val (.ref h4.size), .unset] [])) _
  refine XS.iload X6.here hx rfl (hb hby at_87) rfl ?_
  show Steps p.tables e below (T6.setTop (mkF m 89 #[.val (.int p1), .val (.int p2), .val (.int p3), .val (.int p4), .val (.int p5), .val (.int (1 : Int32)), .val (.int (Int32.ofNat d0)), .val (.int (Int32.ofNat d1)), .val (.int (Int32.ofNat d2)), .val (.ref h0.size), .val (.ref h4.size), .unset] [(.int (1 : Int32))])) _
  refine XS.iconst X6.here hx rfl (hb hby at_89) ?_
  show Steps p.tables e below (T6.setTop (mkF m 90 #[.val (.int p1), .val (.int p2), .val (.int p3), .val (.int p4), .val (.int p5), .val (.int (1 : Int32)), .val (.int (Int32.ofNat d0)), .val (.int (Int32.ofNat d1)), .val (.int (Int32.ofNat d2)), .val (.ref h0.size), .val (.ref h4.size), .unset] [(.int (2 : Int32)), (.int (1 : Int32))])) _
  refine XS.icmpYes X6.here hx rfl (pc0 := 90) (pc' := 99) rfl (hb hby at_90) rfl (flt (by decide)).2.2.2 (by decide) (by decide) ?_
  exact kt
set_option maxRecDepth 65536 in
set_option maxHeartbeats 40000000 in
theorem fill_2 {p : Program} {l : Launch} {e : Env} {s : State} {m : MethodId} {args : Array Value} {below : List Frame} {meth : Method} {c : Code} {T0 : State} {locs : List Loc} {Z : State} {a0 : Array Value} {h0 : Heap} {n0 : Nat} (p1 p2 p3 p4 p5 : Int32) (d0 d1 d2 : Nat)
    (X0 : Stand p l e room_1 s m args below meth c T0 locs 0 0) (hx : p.tables.exec = Jvm.exec) (hZ : Z.Warmed39 s.vm) (hw : ∀ d ∈ tables_1, d.before a0 Z = true) (hby : c.code = code) (hown : s.vm.findClass "com/example/syngraft/syngraft/core/DiffTreeNumbersOfPinLaw" = some m.cls) (e0 : T0.heap = h0) (Z0 : n0 ≤ h0.size) (N0 : Fr n0 locs) :
    ∃ (T' : State) (h' : Heap) (o1 o2 : Addr) (locs' : List Loc), Stand p l e room_1 s m args below meth c T' locs' 2 6 ∧ T'.heap = h' ∧ Fr n0 locs' ∧ n0 ≤ h'.size ∧ AF Z h' o1 .int 3 (fun j => .int (own_N p1 p2 p3 j)) ∧ AF Z h' o2 .int 2 (fun j => .int (Int32.ofNat (own_d d0 d1 d2 j))) ∧
      ∀ target, Steps p.tables e below (T'.setTop (mkF m 99 #[.val (.int p1), .val (.int p2), .val (.int p3), .val (.int p4), .val (.int p5), .val (.int (2 : Int32)), .val (.int (Int32.ofNat d0)), .val (.int (Int32.ofNat d1)), .val (.int (Int32.ofNat d2)), .val (.ref o1), .val (.ref o2), .unset] [])) target → Steps p.tables e below (T0.setTop (mkF m 42 #[.val (.int p1), .val (.int p2), .val (.int p3), .val (.int p4), .val (.int p5), .val (.int (2 : Int32)), .val (.int (Int32.ofNat d0)), .val (.int (Int32.ofNat d1)), .val (.int (Int32.ofNat d2)), .unset, .unset, .unset] [(.int (3 : Int32))])) target := by
  obtain ⟨T1, h1, k1, X1, e1, E1, A1, st1⟩ := newP X0 hx hZ (hw _ (List.mem_of_getElem? (i := 0) rfl)) e0 (g := (mkF m 42 #[.val (.int p1), .val (.int p2), .val (.int p3), .val (.int p4), .val (.int p5), .val (.int (2 : Int32)), .val (.int (Int32.ofNat d0)), .val (.int (Int32.ofNat d1)), .val (.int (Int32.ofNat d2)), .unset, .unset, .unset] [(.int (3 : Int32))])) rfl (hb hby at_42) rfl (by decide) (cap := 3) (by decide) (by decide) (by decide) (by decide)
  have V1_1 : AF Z h1 h0.size .int 3 (fun _ => .int 0) := AF.new A1 (by decide)
  have g1 : n0 ≤ h0.size := Z0
  have Z1 : n0 ≤ h1.size := Nat.le_trans Z0 E1.1
  obtain ⟨c2, Ar2, S2, H2⟩ := V1_1
  obtain ⟨T2, h2, X2, e2, W2, st2⟩ := stI X1 hx hZ e1 Ar2 (j := (0 : Int32)) (by rw [S2]; decide) (g := (mkF m 47 #[.val (.int p1), .val (.int p2), .val (.int p3), .val (.int p4), .val (.int p5), .val (.int (2 : Int32)), .val (.int (Int32.ofNat d0)), .val (.int (Int32.ofNat d1)), .val (.int (Int32.ofNat d2)), .unset, .unset, .unset] [(.int p1), (.int (0 : Int32)), (.ref h0.size), (.ref h0.size)])) rfl rfl (hb hby at_47)
  have N2 := Fr.snoc X2 N0 g1
  have V1_2 := AF.set (⟨c2, Ar2, S2, H2⟩ : AF Z h1 h0.size .int 3 _) W2
  have Z2 : n0 ≤ h2.size := by rw [W2.size]; exact Z1
  obtain ⟨c3, Ar3, S3, H3⟩ := V1_2
  obtain ⟨T3, h3, X3, e3, W3, st3⟩ := stI X2 hx hZ e2 Ar3 (j := (1 : Int32)) (by rw [S3]; decide) (g := (mkF m 51 #[.val (.int p1), .val (.int p2), .val (.int p3), .val (.int p4), .val (.int p5), .val (.int (2 : Int32)), .val (.int (Int32.ofNat d0)), .val (.int (Int32.ofNat d1)), .val (.int (Int32.ofNat d2)), .unset, .unset, .unset] [(.int p2), (.int (1 : Int32)), (.ref h0.size), (.ref h0.size)])) rfl rfl (hb hby at_51)
  have N3 := Fr.snoc X3 N2 g1
  have V1_3 := AF.set (⟨c3, Ar3, S3, H3⟩ : AF Z h2 h0.size .int 3 _) W3
  have Z3 : n0 ≤ h3.size := by rw [W3.size]; exact Z2
  obtain ⟨c4, Ar4, S4, H4⟩ := V1_3
  obtain ⟨T4, h4, X4, e4, W4, st4⟩ := stI X3 hx hZ e3 Ar4 (j := (2 : Int32)) (by rw [S4]; decide) (g := (mkF m 55 #[.val (.int p1), .val (.int p2), .val (.int p3), .val (.int p4), .val (.int p5), .val (.int (2 : Int32)), .val (.int (Int32.ofNat d0)), .val (.int (Int32.ofNat d1)), .val (.int (Int32.ofNat d2)), .unset, .unset, .unset] [(.int p3), (.int (2 : Int32)), (.ref h0.size), (.ref h0.size)])) rfl rfl (hb hby at_55)
  have N4 := Fr.snoc X4 N3 g1
  have V1_4 := AF.set (⟨c4, Ar4, S4, H4⟩ : AF Z h3 h0.size .int 3 _) W4
  have Z4 : n0 ≤ h4.size := by rw [W4.size]; exact Z3
  obtain ⟨T5, h5, k5, X5, e5, E5, A5, st5⟩ := newP X4 hx hZ (hw _ (List.mem_of_getElem? (i := 0) rfl)) e4 (g := (mkF m 60 #[.val (.int p1), .val (.int p2), .val (.int p3), .val (.int p4), .val (.int p5), .val (.int (2 : Int32)), .val (.int (Int32.ofNat d0)), .val (.int (Int32.ofNat d1)), .val (.int (Int32.ofNat d2)), .val (.ref h0.size), .unset, .unset] [(.int (2 : Int32))])) rfl (hb hby at_60) rfl (by decide) (cap := 3) (by decide) (by decide) (by decide) (by decide)
  have V2_5 : AF Z h5 h4.size .int 2 (fun _ => .int 0) := AF.new A5 (by decide)
  have V1_5 := V1_4.ext E5
  have ne12 : h0.size ≠ h4.size := Nat.ne_of_lt V1_4.lt
  have g2 : n0 ≤ h4.size := Z4
  have Z5 : n0 ≤ h5.size := Nat.le_trans Z4 E5.1
  obtain ⟨c6, Ar6, S6, H6⟩ := V2_5
  obtain ⟨T6, h6, X6, e6, W6, st6⟩ := stI X5 hx hZ e5 Ar6 (j := (0 : Int32)) (by rw [S6]; decide) (g := (mkF m 74 #[.val (.int p1), .val (.int p2), .val (.int p3), .val (.int p4), .val (.int p5), .val (.int (2 : Int32)), .val (.int (Int32.ofNat d0)), .val (.int (Int32.ofNat d1)), .val (.int (Int32.ofNat d2)), .val (.ref h0.size), .val (.ref h4.size), .unset] [(.int (Int32.ofNat d0)), (.int (0 : Int32)), (.ref h4.size)])) rfl rfl (hb hby at_74)
  have N6 := Fr.snoc X6 N4 g2
  have V2_6 := AF.set (⟨c6, Ar6, S6, H6⟩ : AF Z h5 h4.size .int 2 _) W6
  have V1_6 := V1_5.other W6 ne12
  have Z6 : n0 ≤ h6.size := by rw [W6.size]; exact Z5
  obtain ⟨c7, Ar7, S7, H7⟩ := V2_6
  obtain ⟨T7, h7, X7, e7, W7, st7⟩ := stI X6 hx hZ e6 Ar7 (j := (1 : Int32)) (by rw [S7]; decide) (g := (mkF m 86 #[.val (.int p1), .val (.int p2), .val (.int p3), .val (.int p4), .val (.int p5), .val (.int (2 : Int32)), .val (.int (Int32.ofNat d0)), .val (.int (Int32.ofNat d1)), .val (.int (Int32.ofNat d2)), .val (.ref h0.size), .val (.ref h4.size), .unset] [(.int (Int32.ofNat d1)), (.int (1 : Int32)), (.ref h4.size)])) rfl rfl (hb hby at_86)
  have N7 := Fr.snoc X7 N6 g2
  have V2_7 := AF.set (⟨c7, Ar7, S7, H7⟩ : AF Z h6 h4.size .int 2 _) W7
  have V1_7 := V1_6.other W7 ne12
  have Z7 : n0 ≤ h7.size := by rw [W7.size]; exact Z6
  have F1 : AF Z h7 h0.size .int 3 (fun j => .int (own_N p1 p2 p3 j)) := V1_7.congr (fun j hj => by
    match j, hj with
    | 0, _ => rfl
    | 1, _ => rfl
    | 2, _ => rfl)
  have F2 : AF Z h7 h4.size .int 2 (fun j => .int (Int32.ofNat (own_d d0 d1 d2 j))) := V2_7.congr (fun j hj => by
    match j, hj with
    | 0, _ => rfl
    | 1, _ => rfl)
  refine ⟨T7, h7, h0.size, h4.size, _, X7, e7, N7, Z7, F1, F2, fun target kt => ?_⟩
  show Steps p.tables e below (T0.setTop (mkF m 42 #[.val (.int p1), .val (.int p2), .val (.int p3), .val (.int p4), .val (.int p5), .val (.int (2 : Int32)), .val (.int (Int32.ofNat d0)), .val (.int (Int32.ofNat d1)), .val (.int (Int32.ofNat d2)), .unset, .unset, .unset] [(.int (3 : Int32))])) _
  refine st1 _ ?_
  show Steps p.tables e below (T1.setTop (mkF m 44 #[.val (.int p1), .val (.int p2), .val (.int p3), .val (.int p4), .val (.int p5), .val (.int (2 : Int32)), .val (.int (Int32.ofNat d0)), .val (.int (Int32.ofNat d1)), .val (.int (Int32.ofNat d2)), .unset, .unset, .unset] [(.ref h0.size)])) _
  refine XS.dup X1.here hx rfl (hb hby at_44) rfl rfl ?_
  show Steps p.tables e below (T1.setTop (mkF m 45 #[.val (.int p1), .val (.int p2), .val (.int p3), .val (.int p4), .val (.int p5), .val (.int (2 : Int32)), .val (.int (Int32.ofNat d0)), .val (.int (Int32.ofNat d1)), .val (.int (Int32.ofNat d2)), .unset, .unset, .unset] [(.ref h0.size), (.ref h0.size)])) _
  refine XS.iconst X1.here hx rfl (hb hby at_45) ?_
  show Steps p.tables e below (T1.setTop (mkF m 46 #[.val (.int p1), .val (.int p2), .val (.int p3), .val (.int p4), .val (.int p5), .val (.int (2 : Int32)), .val (.int (Int32.ofNat d0)), .val (.int (Int32.ofNat d1)), .val (.int (Int32.ofNat d2)), .unset, .unset, .unset] [(.int (0 : Int32)), (.ref h0.size), (.ref h0.size)])) _
  refine XS.iloadN X1.here hx rfl (hb hby at_46) rfl ?_
  show Steps p.tables e below (T1.setTop (mkF m 47 #[.val (.int p1), .val (.int p2), .val (.int p3), .val (.int p4), .val (.int p5), .val (.int (2 : Int32)), .val (.int (Int32.ofNat d0)), .val (.int (Int32.ofNat d1)), .val (.int (Int32.ofNat d2)), .unset, .unset, .unset] [(.int p1), (.int (0 : Int32)), (.ref h0.size), (.ref h0.size)])) _
  refine st2 _ ?_
  show Steps p.tables e below (T2.setTop (mkF m 48 #[.val (.int p1), .val (.int p2), .val (.int p3), .val (.int p4), .val (.int p5), .val (.int (2 : Int32)), .val (.int (Int32.ofNat d0)), .val (.int (Int32.ofNat d1)), .val (.int (Int32.ofNat d2)), .unset, .unset, .unset] [(.ref h0.size)])) _
  refine XS.dup X2.here hx rfl (hb hby at_48) rfl rfl ?_
  show Steps p.tables e below (T2.setTop (mkF m 49 #[.val (.int p1), .val (.int p2), .val (.int p3), .val (.int p4), .val (.int p5), .val (.int (2 : Int32)), .val (.int (Int32.ofNat d0)), .val (.int (Int32.ofNat d1)), .val (.int (Int32.ofNat d2)), .unset, .unset, .unset] [(.ref h0.size), (.ref h0.size)])) _
  refine XS.iconst X2.here hx rfl (hb hby at_49) ?_
  show Steps p.tables e below (T2.setTop (mkF m 50 #[.val (.int p1), .val (.int p2), .val (.int p3), .val (.int p4), .val (.int p5), .val (.int (2 : Int32)), .val (.int (Int32.ofNat d0)), .val (.int (Int32.ofNat d1)), .val (.int (Int32.ofNat d2)), .unset, .unset, .unset] [(.int (1 : Int32)), (.ref h0.size), (.ref h0.size)])) _
  refine XS.iloadN X2.here hx rfl (hb hby at_50) rfl ?_
  show Steps p.tables e below (T2.setTop (mkF m 51 #[.val (.int p1), .val (.int p2), .val (.int p3), .val (.int p4), .val (.int p5), .val (.int (2 : Int32)), .val (.int (Int32.ofNat d0)), .val (.int (Int32.ofNat d1)), .val (.int (Int32.ofNat d2)), .unset, .unset, .unset] [(.int p2), (.int (1 : Int32)), (.ref h0.size), (.ref h0.size)])) _
  refine st3 _ ?_
  show Steps p.tables e below (T3.setTop (mkF m 52 #[.val (.int p1), .val (.int p2), .val (.int p3), .val (.int p4), .val (.int p5), .val (.int (2 : Int32)), .val (.int (Int32.ofNat d0)), .val (.int (Int32.ofNat d1)), .val (.int (Int32.ofNat d2)), .unset, .unset, .unset] [(.ref h0.size)])) _
  refine XS.dup X3.here hx rfl (hb hby at_52) rfl rfl ?_
  show Steps p.tables e below (T3.setTop (mkF m 53 #[.val (.int p1), .val (.int p2), .val (.int p3), .val (.int p4), .val (.int p5), .val (.int (2 : Int32)), .val (.int (Int32.ofNat d0)), .val (.int (Int32.ofNat d1)), .val (.int (Int32.ofNat d2)), .unset, .unset, .unset] [(.ref h0.size), (.ref h0.size)])) _
  refine XS.iconst X3.here hx rfl (hb hby at_53) ?_
  show Steps p.tables e below (T3.setTop (mkF m 54 #[.val (.int p1), .val (.int p2), .val (.int p3), .val (.int p4), .val (.int p5), .val (.int (2 : Int32)), .val (.int (Int32.ofNat d0)), .val (.int (Int32.ofNat d1)), .val (.int (Int32.ofNat d2)), .unset, .unset, .unset] [(.int (2 : Int32)), (.ref h0.size), (.ref h0.size)])) _
  refine XS.iloadN X3.here hx rfl (hb hby at_54) rfl ?_
  show Steps p.tables e below (T3.setTop (mkF m 55 #[.val (.int p1), .val (.int p2), .val (.int p3), .val (.int p4), .val (.int p5), .val (.int (2 : Int32)), .val (.int (Int32.ofNat d0)), .val (.int (Int32.ofNat d1)), .val (.int (Int32.ofNat d2)), .unset, .unset, .unset] [(.int p3), (.int (2 : Int32)), (.ref h0.size), (.ref h0.size)])) _
  refine st4 _ ?_
  show Steps p.tables e below (T4.setTop (mkF m 56 #[.val (.int p1), .val (.int p2), .val (.int p3), .val (.int p4), .val (.int p5), .val (.int (2 : Int32)), .val (.int (Int32.ofNat d0)), .val (.int (Int32.ofNat d1)), .val (.int (Int32.ofNat d2)), .unset, .unset, .unset] [(.ref h0.size)])) _
  refine XS.astore X4.here hx rfl (hb hby at_56) rfl rfl (l' := #[.val (.int p1), .val (.int p2), .val (.int p3), .val (.int p4), .val (.int p5), .val (.int (2 : Int32)), .val (.int (Int32.ofNat d0)), .val (.int (Int32.ofNat d1)), .val (.int (Int32.ofNat d2)), .val (.ref h0.size), .unset, .unset]) rfl ?_
  show Steps p.tables e below (T4.setTop (mkF m 58 #[.val (.int p1), .val (.int p2), .val (.int p3), .val (.int p4), .val (.int p5), .val (.int (2 : Int32)), .val (.int (Int32.ofNat d0)), .val (.int (Int32.ofNat d1)), .val (.int (Int32.ofNat d2)), .val (.ref h0.size), .unset, .unset] [])) _
  refine XS.iload X4.here hx rfl (hb hby at_58) rfl ?_
  show Steps p.tables e below (T4.setTop (mkF m 60 #[.val (.int p1), .val (.int p2), .val (.int p3), .val (.int p4), .val (.int p5), .val (.int (2 : Int32)), .val (.int (Int32.ofNat d0)), .val (.int (Int32.ofNat d1)), .val (.int (Int32.ofNat d2)), .val (.ref h0.size), .unset, .unset] [(.int (2 : Int32))])) _
  refine st5 _ ?_
  show Steps p.tables e below (T5.setTop (mkF m 62 #[.val (.int p1), .val (.int p2), .val (.int p3), .val (.int p4), .val (.int p5), .val (.int (2 : Int32)), .val (.int (Int32.ofNat d0)), .val (.int (Int32.ofNat d1)), .val (.int (Int32.ofNat d2)), .val (.ref h0.size), .unset, .unset] [(.ref h4.size)])) _
  refine XS.astore X5.here hx rfl (hb hby at_62) rfl rfl (l' := #[.val (.int p1), .val (.int p2), .val (.int p3), .val (.int p4), .val (.int p5), .val (.int (2 : Int32)), .val (.int (Int32.ofNat d0)), .val (.int (Int32.ofNat d1)), .val (.int (Int32.ofNat d2)), .val (.ref h0.size), .val (.ref h4.size), .unset]) rfl ?_
  show Steps p.tables e below (T5.setTop (mkF m 64 #[.val (.int p1), .val (.int p2), .val (.int p3), .val (.int p4), .val (.int p5), .val (.int (2 : Int32)), .val (.int (Int32.ofNat d0)), .val (.int (Int32.ofNat d1)), .val (.int (Int32.ofNat d2)), .val (.ref h0.size), .val (.ref h4.size), .unset] [])) _
  refine XS.iload X5.here hx rfl (hb hby at_64) rfl ?_
  show Steps p.tables e below (T5.setTop (mkF m 66 #[.val (.int p1), .val (.int p2), .val (.int p3), .val (.int p4), .val (.int p5), .val (.int (2 : Int32)), .val (.int (Int32.ofNat d0)), .val (.int (Int32.ofNat d1)), .val (.int (Int32.ofNat d2)), .val (.ref h0.size), .val (.ref h4.size), .unset] [(.int (2 : Int32))])) _
  refine XS.ifNo X5.here hx rfl (hb hby at_66) rfl ((if0 _ _).trans (tlt (by decide)).2.2.2) ?_
  show Steps p.tables e below (T5.setTop (mkF m 69 #[.val (.int p1), .val (.int p2), .val (.int p3), .val (.int p4), .val (.int p5), .val (.int (2 : Int32)), .val (.int (Int32.ofNat d0)), .val (.int (Int32.ofNat d1)), .val (.int (Int32.ofNat d2)), .val (.ref h0.size), .val (.ref h4.size), .unset] [])) _
  refine XS.aload X5.here hx rfl (hb hby at_69) rfl rfl ?_
  show Steps p.tables e below (T5.setTop (mkF m 71 #[.val (.int p1), .val (.int p2), .val (.int p3), .val (.int p4), .val (.int p5), .val (.int (2 : Int32)), .val (.int (Int32.ofNat d0)), .val (.int (Int32.ofNat d1)), .val (.int (Int32.ofNat d2)), .val (.ref h0.size), .val (.ref h4.size), .unset] [(.ref h4.size)])) _
  refine XS.iconst X5.here hx rfl (hb hby at_71) ?_
  show Steps p.tables e below (T5.setTop (mkF m 72 #[.val (.int p1), .val (.int p2), .val (.int p3), .val (.int p4), .val (.int p5), .val (.int (2 : Int32)), .val (.int (Int32.ofNat d0)), .val (.int (Int32.ofNat d1)), .val (.int (Int32.ofNat d2)), .val (.ref h0.size), .val (.ref h4.size), .unset] [(.int (0 : Int32)), (.ref h4.size)])) _
  refine XS.iload X5.here hx rfl (hb hby at_72) rfl ?_
  show Steps p.tables e below (T5.setTop (mkF m 74 #[.val (.int p1), .val (.int p2), .val (.int p3), .val (.int p4), .val (.int p5), .val (.int (2 : Int32)), .val (.int (Int32.ofNat d0)), .val (.int (Int32.ofNat d1)), .val (.int (Int32.ofNat d2)), .val (.ref h0.size), .val (.ref h4.size), .unset] [(.int (Int32.ofNat d0)), (.int (0 : Int32)), (.ref h4.size)])) _
  refine st6 _ ?_
  show Steps p.tables e below (T6.setTop (mkF m 75 #[.val (.int p1), .val (.int p2), .val (.int p3), .val (.int p4), .val (.int p5), .val (.int (2 : Int32)), .val (.int (Int32.ofNat d0)), .val (.int (Int32.ofNat d1)), .val (.int (Int32.ofNat d2)), .val (.ref h0.size), .val (.ref h4.size), .unset] [])) _
  refine XS.iload X6.here hx rfl (hb hby at_75) rfl ?_
  show Steps p.tables e below (T6.setTop (mkF m 77 #[.val (.int p1), .val (.int p2), .val (.int p3), .val (.int p4), .val (.int p5), .val (.int (2 : Int32)), .val (.int (Int32.ofNat d0)), .val (.int (Int32.ofNat d1)), .val (.int (Int32.ofNat d2)), .val (.ref h0.size), .val (.ref h4.size), .unset] [(.int (2 : Int32))])) _
  refine XS.iconst X6.here hx rfl (hb hby at_77) ?_
  show Steps p.tables e below (T6.setTop (mkF m 78 #[.val (.int p1), .val (.int p2), .val (.int p3), .val (.int p4), .val (.int p5), .val (.int (2 : Int32)), .val (.int (Int32.ofNat d0)), .val (.int (Int32.ofNat d1)), .val (.int (Int32.ofNat d2)), .val (.ref h0.size), .val (.ref h4.size), .unset] [(.int (1 : Int32)), (.int (2 : Int32))])) _
  refine XS.icmpNo X6.here hx rfl (hb hby at_78) rfl (tlt (by decide)).2.2.2 ?_
  show Steps p.tables e below (T6.setTop (mkF m 81 #[.val (.int p1), .val (.int p2), .val (.int p3), .val (.int p4), .val (.int p5), .val (.int (2 : Int32)), .val (.int (Int32.ofNat d0)), .val (.int (Int32.ofNat d1)), .val (.int (Int32.ofNat d2)), .val (.ref h0.size), .val (.ref h4.size), .unset] [])) _
  refine XS.aload X6.here hx rfl (hb hby at_81) rfl rfl ?_
  show Steps p.tables e below (T6.setTop (mkF m 83 #[.val (.int p1), .val (.int p2), .val (.int p3), .val (.int p4), .val (.int p5), .val (.int (2 : Int32)), .val (.int (Int32.ofNat d0)), .val (.int (Int32.ofNat d1)), .val (.int (Int32.ofNat d2)), .val (.ref h0.size), .val (.ref h4.size), .unset] [(.ref h4.size)])) _
  refine XS.iconst X6.here hx rfl (hb hby at_83) ?_
  show Steps p.tables e below (T6.setTop (mkF m 84 #[.val (.int p1), .val (.int p2), .val (.int p3), .val (.int p4), .val (.int p5), .val (.int (2 : Int32)), .val (.int (Int32.ofNat d0)), .val (.int (Int32.ofNat d1)), .val (.int (Int32.ofNat d2)), .val (.ref h0.size), .val (.ref h4.size), .unset] [(.int (1 : Int32)), (.ref h4.size)])) _
  refine XS.iload X6.here hx rfl (hb hby at_84) rfl ?_
  show Steps p.tables e below (T6.setTop (mkF m 86 #[.val (.int p1), .val (.int p2), .val (.int p3), .val (.int p4), .val (.int p5), .val (.int (2 : Int32)), .val (.int (Int32.ofNat d0)), .val (.int (Int32.ofNat d1)), .val (.int (Int32.ofNat d2)), .val (.ref h0.size), .val (.ref h4.size), .unset] [(.int (Int32.ofNat d1)), (.int (1 : Int32)), (.ref h4.size)])) _
  refine st7 _ ?_
  show Steps p.tables e below (T7.setTop (mkF m 87 #[.val (.int p1), .val (.int p2), .val (.int p3), .val (.int p4), .val (.int p5), .val (.int (2 : Int32)), .val (.int (Int32.ofNat d0)), .val (.int (Int32.ofNat d1)), .val (.int (Int32.ofNat d2)), .val (.ref h0.size), .val (.ref h4.size), .unset] [])) _
  refine XS.iload X7.here hx rfl (hb hby at_87) rfl ?_
  show Steps p.tables e below (T7.setTop (mkF m 89 #[.val (.int p1), .val (.int p2), .val (.int p3), .val (.int p4), .val (.int p5), .val (.int (2 : Int32)), .val (.int (Int32.ofNat d0)), .val (.int (Int32.ofNat d1)), .val (.int (Int32.ofNat d2)), .val (.ref h0.size), .val (.ref h4.size), .unset] [(.int (2 : Int32))])) _
  refine XS.iconst X7.here hx rfl (hb hby at_89) ?_
  show Steps p.tables e below (T7.setTop (mkF m 90 #[.val (.int p1), .val (.int p2), .val (.int p3), .val (.int p4), .val (.int p5), .val (.int (2 : Int32)), .val (.int (Int32.ofNat d0)), .val (.int (Int32.ofNat d1)), .val (.int (Int32.ofNat d2)), .val (.ref h0.size), .val (.ref h4.size), .unset] [(.int (2 : Int32)), (.int (2 : Int32))])) _
  refine XS.icmpYes X7.here hx rfl (pc0 := 90) (pc' := 99) rfl (hb hby at_90) rfl (flt (by decide)).2.2.2 (by decide) (by decide) ?_
  exact kt
set_option maxRecDepth 65536 in
set_option maxHeartbeats 40000000 in
theorem fill_3 {p : Program} {l : Launch} {e : Env} {s : State} {m : MethodId} {args : Array Value} {below : List Frame} {meth : Method} {c : Code} {T0 : State} {locs : List Loc} {Z : State} {a0 : Array Value} {h0 : Heap} {n0 : Nat} (p1 p2 p3 p4 p5 : Int32) (d0 d1 d2 : Nat)
    (X0 : Stand p l e room_1 s m args below meth c T0 locs 0 0) (hx : p.tables.exec = Jvm.exec) (hZ : Z.Warmed39 s.vm) (hw : ∀ d ∈ tables_1, d.before a0 Z = true) (hby : c.code = code) (hown : s.vm.findClass "com/example/syngraft/syngraft/core/DiffTreeNumbersOfPinLaw" = some m.cls) (e0 : T0.heap = h0) (Z0 : n0 ≤ h0.size) (N0 : Fr n0 locs) :
    ∃ (T' : State) (h' : Heap) (o1 o2 : Addr) (locs' : List Loc), Stand p l e room_1 s m args below meth c T' locs' 2 6 ∧ T'.heap = h' ∧ Fr n0 locs' ∧ n0 ≤ h'.size ∧ AF Z h' o1 .int 3 (fun j => .int (own_N p1 p2 p3 j)) ∧ AF Z h' o2 .int 3 (fun j => .int (Int32.ofNat (own_d d0 d1 d2 j))) ∧
      ∀ target, Steps p.tables e below (T'.setTop (mkF m 99 #[.val (.int p1), .val (.int p2), .val (.int p3), .val (.int p4), .val (.int p5), .val (.int (3 : Int32)), .val (.int (Int32.ofNat d0)), .val (.int (Int32.ofNat d1)), .val (.int (Int32.ofNat d2)), .val (.ref o1), .val (.ref o2), .unset] [])) target → Steps p.tables e below (T0.setTop (mkF m 42 #[.val (.int p1), .val (.int p2), .val (.int p3), .val (.int p4), .val (.int p5), .val (.int (3 : Int32)), .val (.int (Int32.ofNat d0)), .val (.int (Int32.ofNat d1)), .val (.int (Int32.ofNat d2)), .unset, .unset, .unset] [(.int (3 : Int32))])) target := by
  obtain ⟨T1, h1, k1, X1, e1, E1, A1, st1⟩ := newP X0 hx hZ (hw _ (List.mem_of_getElem? (i := 0) rfl)) e0 (g := (mkF m 42 #[.val (.int p1), .val (.int p2), .val (.int p3), .val (.int p4), .val (.int p5), .val (.int (3 : Int32)), .val (.int (Int32.ofNat d0)), .val (.int (Int32.ofNat d1)), .val (.int (Int32.ofNat d2)), .unset, .unset, .unset] [(.int (3 : Int32))])) rfl (hb hby at_42) rfl (by decide) (cap := 3) (by decide) (by decide) (by decide) (by decide)
  have V1_1 : AF Z h1 h0.size .int 3 (fun _ => .int 0) := AF.new A1 (by decide)
  have g1 : n0 ≤ h0.size := Z0
  have Z1 : n0 ≤ h1.size := Nat.le_trans Z0 E1.1
  obtain ⟨c2, Ar2, S2, H2⟩ := V1_1
  obtain ⟨T2, h2, X2, e2, W2, st2⟩ := stI X1 hx hZ e1 Ar2 (j := (0 : Int32)) (by rw [S2]; decide) (g := (mkF m 47 #[.val (.int p1), .val (.int p2), .val (.int p3), .val (.int p4), .val (.int p5), .val (.int (3 : Int32)), .val (.int (Int32.ofNat d0)), .val (.int (Int32.ofNat d1)), .val (.int (Int32.ofNat d2)), .unset, .unset, .unset] [(.int p1), (.int (0 : Int32)), (.ref h0.size), (.ref h0.size)])) rfl rfl (hb hby at_47)
  have N2 := Fr.snoc X2 N0 g1
  have V1_2 := AF.set (⟨c2, Ar2, S2, H2⟩ : AF Z h1 h0.size .int 3 _) W2
  have Z2 : n0 ≤ h2.size := by rw [W2.size]; exact Z1
  obtain ⟨c3, Ar3, S3, H3⟩ := V1_2
  obtain ⟨T3, h3, X3, e3, W3, st3⟩ := stI X2 hx hZ e2 Ar3 (j := (1 : Int32)) (by rw [S3]; decide) (g := (mkF m 51 #[.val (.int p1), .val (.int p2), .val (.int p3), .val (.int p4), .val (.int p5), .val (.int (3 : Int32)), .val (.int (Int32.ofNat d0)), .val (.int (Int32.ofNat d1)), .val (.int (Int32.ofNat d2)), .unset, .unset, .unset] [(.int p2), (.int (1 : Int32)), (.ref h0.size), (.ref h0.size)])) rfl rfl (hb hby at_51)
  have N3 := Fr.snoc X3 N2 g1
  have V1_3 := AF.set (⟨c3, Ar3, S3, H3⟩ : AF Z h2 h0.size .int 3 _) W3
  have Z3 : n0 ≤ h3.size := by rw [W3.size]; exact Z2
  obtain ⟨c4, Ar4, S4, H4⟩ := V1_3
  obtain ⟨T4, h4, X4, e4, W4, st4⟩ := stI X3 hx hZ e3 Ar4 (j := (2 : Int32)) (by rw [S4]; decide) (g := (mkF m 55 #[.val (.int p1), .val (.int p2), .val (.int p3), .val (.int p4), .val (.int p5), .val (.int (3 : Int32)), .val (.int (Int32.ofNat d0)), .val (.int (Int32.ofNat d1)), .val (.int (Int32.ofNat d2)), .unset, .unset, .unset] [(.int p3), (.int (2 : Int32)), (.ref h0.size), (.ref h0.size)])) rfl rfl (hb hby at_55)
  have N4 := Fr.snoc X4 N3 g1
  have V1_4 := AF.set (⟨c4, Ar4, S4, H4⟩ : AF Z h3 h0.size .int 3 _) W4
  have Z4 : n0 ≤ h4.size := by rw [W4.size]; exact Z3
  obtain ⟨T5, h5, k5, X5, e5, E5, A5, st5⟩ := newP X4 hx hZ (hw _ (List.mem_of_getElem? (i := 0) rfl)) e4 (g := (mkF m 60 #[.val (.int p1), .val (.int p2), .val (.int p3), .val (.int p4), .val (.int p5), .val (.int (3 : Int32)), .val (.int (Int32.ofNat d0)), .val (.int (Int32.ofNat d1)), .val (.int (Int32.ofNat d2)), .val (.ref h0.size), .unset, .unset] [(.int (3 : Int32))])) rfl (hb hby at_60) rfl (by decide) (cap := 3) (by decide) (by decide) (by decide) (by decide)
  have V2_5 : AF Z h5 h4.size .int 3 (fun _ => .int 0) := AF.new A5 (by decide)
  have V1_5 := V1_4.ext E5
  have ne12 : h0.size ≠ h4.size := Nat.ne_of_lt V1_4.lt
  have g2 : n0 ≤ h4.size := Z4
  have Z5 : n0 ≤ h5.size := Nat.le_trans Z4 E5.1
  obtain ⟨c6, Ar6, S6, H6⟩ := V2_5
  obtain ⟨T6, h6, X6, e6, W6, st6⟩ := stI X5 hx hZ e5 Ar6 (j := (0 : Int32)) (by rw [S6]; decide) (g := (mkF m 74 #[.val (.int p1), .val (.int p2), .val (.int p3), .val (.int p4), .val (.int p5), .val (.int (3 : Int32)), .val (.int (Int32.ofNat d0)), .val (.int (Int32.ofNat d1)), .val (.int (Int32.ofNat d2)), .val (.ref h0.size), .val (.ref h4.size), .unset] [(.int (Int32.ofNat d0)), (.int (0 : Int32)), (.ref h4.size)])) rfl rfl (hb hby at_74)
  have N6 := Fr.snoc X6 N4 g2
  have V2_6 := AF.set (⟨c6, Ar6, S6, H6⟩ : AF Z h5 h4.size .int 3 _) W6
  have V1_6 := V1_5.other W6 ne12
  have Z6 : n0 ≤ h6.size := by rw [W6.size]; exact Z5
  obtain ⟨c7, Ar7, S7, H7⟩ := V2_6
  obtain ⟨T7, h7, X7, e7, W7, st7⟩ := stI X6 hx hZ e6 Ar7 (j := (1 : Int32)) (by rw [S7]; decide) (g := (mkF m 86 #[.val (.int p1), .val (.int p2), .val (.int p3), .val (.int p4), .val (.int p5), .val (.int (3 : Int32)), .val (.int (Int32.ofNat d0)), .val (.int (Int32.ofNat d1)), .val (.int (Int32.ofNat d2)), .val (.ref h0.size), .val (.ref h4.size), .unset] [(.int (Int32.ofNat d1)), (.int (1 : Int32)), (.ref h4.size)])) rfl rfl (hb hby at_86)
  have N7 := Fr.snoc X7 N6 g2
  have V2_7 := AF.set (⟨c7, Ar7, S7, H7⟩ : AF Z h6 h4.size .int 3 _) W7
  have V1_7 := V1_6.other W7 ne12
  have Z7 : n0 ≤ h7.size := by rw [W7.size]; exact Z6
  obtain ⟨c8, Ar8, S8, H8⟩ := V2_7
  obtain ⟨T8, h8, X8, e8, W8, st8⟩ := stI X7 hx hZ e7 Ar8 (j := (2 : Int32)) (by rw [S8]; decide) (g := (mkF m 98 #[.val (.int p1), .val (.int p2), .val (.int p3), .val (.int p4), .val (.int p5), .val (.int (3 : Int32)), .val (.int (Int32.ofNat d0)), .val (.int (Int32.ofNat d1)), .val (.int (Int32.ofNat d2)), .val (.ref h0.size), .val (.ref h4.size), .unset] [(.int (Int32.ofNat d2)), (.int (2 : Int32)), (.ref h4.size)])) rfl rfl (hb hby at_98)
  have N8 := Fr.snoc X8 N7 g2
  have V2_8 := AF.set (⟨c8, Ar8, S8, H8⟩ : AF Z h7 h4.size .int 3 _) W8
  have V1_8 := V1_7.other W8 ne12
  have Z8 : n0 ≤ h8.size := by rw [W8.size]; exact Z7
  have F1 : AF Z h8 h0.size .int 3 (fun j => .int (own_N p1 p2 p3 j)) := V1_8.congr (fun j hj => by
    match j, hj with
    | 0, _ => rfl
    | 1, _ => rfl
    | 2, _ => rfl)
  have F2 : AF Z h8 h4.size .int 3 (fun j => .int (Int32.ofNat (own_d d0 d1 d2 j))) := V2_8.congr (fun j hj => by
    match j, hj with
    | 0, _ => rfl
    | 1, _ => rfl
    | 2, _ => rfl)
  refine ⟨T8, h8, h0.size, h4.size, _, X8, e8, N8, Z8, F1, F2, fun target kt => ?_⟩
  show Steps p.tables e below (T0.setTop (mkF m 42 #[.val (.int p1), .val (.int p2), .val (.int p3), .val (.int p4), .val (.int p5), .val (.int (3 : Int32)), .val (.int (Int32.ofNat d0)), .val (.int (Int32.ofNat d1)), .val (.int (Int32.ofNat d2)), .unset, .unset, .unset] [(.int (3 : Int32))])) _
  refine st1 _ ?_
  show Steps p.tables e below (T1.setTop (mkF m 44 #[.val (.int p1), .val (.int p2), .val (.int p3), .val (.int p4), .val (.int p5), .val (.int (3 : Int32)), .val (.int (Int32.ofNat d0)), .val (.int (Int32.ofNat d1)), .val (.int (Int32.ofNat d2)), .unset, .unset, .unset] [(.ref h0.size)])) _
  refine XS.dup X1.here hx rfl (hb hby at_44) rfl rfl ?_
  show Steps p.tables e below (T1.setTop (mkF m 45 #[.val (.int p1), .val (.int p2), .val (.int p3), .val (.int p4), .val (.int p5), .val (.int (3 : Int32)), .val (.int (Int32.ofNat d0)), .val (.int (Int32.ofNat d1)), .val (.int (Int32.ofNat d2)), .unset, .unset, .unset] [(.ref h0.size), (.ref h0.size)])) _
  refine XS.iconst X1.here hx rfl (hb hby at_45) ?_
  show Steps p.tables e below (T1.setTop (mkF m 46 #[.val (.int p1), .val (.int p2), .val (.int p3), .val (.int p4), .val (.int p5), .val (.int (3 : Int32)), .val (.int (Int32.ofNat d0)), .val (.int (Int32.ofNat d1)), .val (.int (Int32.ofNat d2)), .unset, .unset, .unset] [(.int (0 : Int32)), (.ref h0.size), (.ref h0.size)])) _
  refine XS.iloadN X1.here hx rfl (hb hby at_46) rfl ?_
  show Steps p.tables e below (T1.setTop (mkF m 47 #[.val (.int p1), .val (.int p2), .val (.int p3), .val (.int p4), .val (.int p5), .val (.int (3 : Int32)), .val (.int (Int32.ofNat d0)), .val (.int (Int32.ofNat d1)), .val (.int (Int32.ofNat d2)), .unset, .unset, .unset] [(.int p1), (.int (0 : Int32)), (.ref h0.size), (.ref h0.size)])) _
  refine st2 _ ?_
  show Steps p.tables e below (T2.setTop (mkF m 48 #[.val (.int p1), .val (.int p2), .val (.int p3), .val (.int p4), .val (.int p5), .val (.int (3 : Int32)), .val (.int (Int32.ofNat d0)), .val (.int (Int32.ofNat d1)), .val (.int (Int32.ofNat d2)), .unset, .unset, .unset] [(.ref h0.size)])) _
  refine XS.dup X2.here hx rfl (hb hby at_48) rfl rfl ?_
  show Steps p.tables e below (T2.setTop (mkF m 49 #[.val (.int p1), .val (.int p2), .val (.int p3), .val (.int p4), .val (.int p5), .val (.int (3 : Int32)), .val (.int (Int32.ofNat d0)), .val (.int (Int32.ofNat d1)), .val (.int (Int32.ofNat d2)), .unset, .unset, .unset] [(.ref h0.size), (.ref h0.size)])) _
  refine XS.iconst X2.here hx rfl (hb hby at_49) ?_
  show Steps p.tables e below (T2.setTop (mkF m 50 #[.val (.int p1), .val (.int p2), .val (.int p3), .val (.int p4), .val (.int p5), .val (.int (3 : Int32)), .val (.int (Int32.ofNat d0)), .val (.int (Int32.ofNat d1)), .val (.int (Int32.ofNat d2)), .unset, .unset, .unset] [(.int (1 : Int32)), (.ref h0.size), (.ref h0.size)])) _
  refine XS.iloadN X2.here hx rfl (hb hby at_50) rfl ?_
  show Steps p.tables e below (T2.setTop (mkF m 51 #[.val (.int p1), .val (.int p2), .val (.int p3), .val (.int p4), .val (.int p5), .val (.int (3 : Int32)), .val (.int (Int32.ofNat d0)), .val (.int (Int32.ofNat d1)), .val (.int (Int32.ofNat d2)), .unset, .unset, .unset] [(.int p2), (.int (1 : Int32)), (.ref h0.size), (.ref h0.size)])) _
  refine st3 _ ?_
  show Steps p.tables e below (T3.setTop (mkF m 52 #[.val (.int p1), .val (.int p2), .val (.int p3), .val (.int p4), .val (.int p5), .val (.int (3 : Int32)), .val (.int (Int32.ofNat d0)), .val (.int (Int32.ofNat d1)), .val (.int (Int32.ofNat d2)), .unset, .unset, .unset] [(.ref h0.size)])) _
  refine XS.dup X3.here hx rfl (hb hby at_52) rfl rfl ?_
  show Steps p.tables e below (T3.setTop (mkF m 53 #[.val (.int p1), .val (.int p2), .val (.int p3), .val (.int p4), .val (.int p5), .val (.int (3 : Int32)), .val (.int (Int32.ofNat d0)), .val (.int (Int32.ofNat d1)), .val (.int (Int32.ofNat d2)), .unset, .unset, .unset] [(.ref h0.size), (.ref h0.size)])) _
  refine XS.iconst X3.here hx rfl (hb hby at_53) ?_
  show Steps p.tables e below (T3.setTop (mkF m 54 #[.val (.int p1), .val (.int p2), .val (.int p3), .val (.int p4), .val (.int p5), .val (.int (3 : Int32)), .val (.int (Int32.ofNat d0)), .val (.int (Int32.ofNat d1)), .val (.int (Int32.ofNat d2)), .unset, .unset, .unset] [(.int (2 : Int32)), (.ref h0.size), (.ref h0.size)])) _
  refine XS.iloadN X3.here hx rfl (hb hby at_54) rfl ?_
  show Steps p.tables e below (T3.setTop (mkF m 55 #[.val (.int p1), .val (.int p2), .val (.int p3), .val (.int p4), .val (.int p5), .val (.int (3 : Int32)), .val (.int (Int32.ofNat d0)), .val (.int (Int32.ofNat d1)), .val (.int (Int32.ofNat d2)), .unset, .unset, .unset] [(.int p3), (.int (2 : Int32)), (.ref h0.size), (.ref h0.size)])) _
  refine st4 _ ?_
  show Steps p.tables e below (T4.setTop (mkF m 56 #[.val (.int p1), .val (.int p2), .val (.int p3), .val (.int p4), .val (.int p5), .val (.int (3 : Int32)), .val (.int (Int32.ofNat d0)), .val (.int (Int32.ofNat d1)), .val (.int (Int32.ofNat d2)), .unset, .unset, .unset] [(.ref h0.size)])) _
  refine XS.astore X4.here hx rfl (hb hby at_56) rfl rfl (l' := #[.val (.int p1), .val (.int p2), .val (.int p3), .val (.int p4), .val (.int p5), .val (.int (3 : Int32)), .val (.int (Int32.ofNat d0)), .val (.int (Int32.ofNat d1)), .val (.int (Int32.ofNat d2)), .val (.ref h0.size), .unset, .unset]) rfl ?_
  show Steps p.tables e below (T4.setTop (mkF m 58 #[.val (.int p1), .val (.int p2), .val (.int p3), .val (.int p4), .val (.int p5), .val (.int (3 : Int32)), .val (.int (Int32.ofNat d0)), .val (.int (Int32.ofNat d1)), .val (.int (Int32.ofNat d2)), .val (.ref h0.size), .unset, .unset] [])) _
  refine XS.iload X4.here hx rfl (hb hby at_58) rfl ?_
  show Steps p.tables e below (T4.setTop (mkF m 60 #[.val (.int p1), .val (.int p2), .val (.int p3), .val (.int p4), .val (.int p5), .val (.int (3 : Int32)), .val (.int (Int32.ofNat d0)), .val (.int (Int32.ofNat d1)), .val (.int (Int32.ofNat d2)), .val (.ref h0.size), .unset, .unset] [(.int (3 : Int32))])) _
  refine st5 _ ?_
  show Steps p.tables e below (T5.setTop (mkF m 62 #[.val (.int p1), .val (.int p2), .val (.int p3), .val (.int p4), .val (.int p5), .val (.int (3 : Int32)), .val (.int (Int32.ofNat d0)), .val (.int (Int32.ofNat d1)), .val (.int (Int32.ofNat d2)), .val (.ref h0.size), .unset, .unset] [(.ref h4.size)])) _
  refine XS.astore X5.here hx rfl (hb hby at_62) rfl rfl (l' := #[.val (.int p1), .val (.int p2), .val (.int p3), .val (.int p4), .val (.int p5), .val (.int (3 : Int32)), .val (.int (Int32.ofNat d0)), .val (.int (Int32.ofNat d1)), .val (.int (Int32.ofNat d2)), .val (.ref h0.size), .val (.ref h4.size), .unset]) rfl ?_
  show Steps p.tables e below (T5.setTop (mkF m 64 #[.val (.int p1), .val (.int p2), .val (.int p3), .val (.int p4), .val (.int p5), .val (.int (3 : Int32)), .val (.int (Int32.ofNat d0)), .val (.int (Int32.ofNat d1)), .val (.int (Int32.ofNat d2)), .val (.ref h0.size), .val (.ref h4.size), .unset] [])) _
  refine XS.iload X5.here hx rfl (hb hby at_64) rfl ?_
  show Steps p.tables e below (T5.setTop (mkF m 66 #[.val (.int p1), .val (.int p2), .val (.int p3), .val (.int p4), .val (.int p5), .val (.int (3 : Int32)), .val (.int (Int32.ofNat d0)), .val (.int (Int32.ofNat d1)), .val (.int (Int32.ofNat d2)), .val (.ref h0.size), .val (.ref h4.size), .unset] [(.int (3 : Int32))])) _
  refine XS.ifNo X5.here hx rfl (hb hby at_66) rfl ((if0 _ _).trans (tlt (by decide)).2.2.2) ?_
  show Steps p.tables e below (T5.setTop (mkF m 69 #[.val (.int p1), .val (.int p2), .val (.int p3), .val (.int p4), .val (.int p5), .val (.int (3 : Int32)), .val (.int (Int32.ofNat d0)), .val (.int (Int32.ofNat d1)), .val (.int (Int32.ofNat d2)), .val (.ref h0.size), .val (.ref h4.size), .unset] [])) _
  refine XS.aload X5.here hx rfl (hb hby at_69) rfl rfl ?_
  show Steps p.tables e below (T5.setTop (mkF m 71 #[.val (.int p1), .val (.int p2), .val (.int p3), .val (.int p4), .val (.int p5), .val (.int (3 : Int32)), .val (.int (Int32.ofNat d0)), .val (.int (Int32.ofNat d1)), .val (.int (Int32.ofNat d2)), .val (.ref h0.size), .val (.ref h4.size), .unset] [(.ref h4.size)])) _
  refine XS.iconst X5.here hx rfl (hb hby at_71) ?_
  show Steps p.tables e below (T5.setTop (mkF m 72 #[.val (.int p1), .val (.int p2), .val (.int p3), .val (.int p4), .val (.int p5), .val (.int (3 : Int32)), .val (.int (Int32.ofNat d0)), .val (.int (Int32.ofNat d1)), .val (.int (Int32.ofNat d2)), .val (.ref h0.size), .val (.ref h4.size), .unset] [(.int (0 : Int32)), (.ref h4.size)])) _
  refine XS.iload X5.here hx rfl (hb hby at_72) rfl ?_
  show Steps p.tables e below (T5.setTop (mkF m 74 #[.val (.int p1), .val (.int p2), .val (.int p3), .val (.int p4), .val (.int p5), .val (.int (3 : Int32)), .val (.int (Int32.ofNat d0)), .val (.int (Int32.ofNat d1)), .val (.int (Int32.ofNat d2)), .val (.ref h0.size), .val (.ref h4.size), .unset] [(.int (Int32.ofNat d0)), (.int (0 : Int32)), (.ref h4.size)])) _
  refine st6 _ ?_
  show Steps p.tables e below (T6.setTop (mkF m 75 #[.val (.int p1), .val (.int p2), .val (.int p3), .val (.int p4), .val (.int p5), .val (.int (3 : Int32)), .val (.int (Int32.ofNat d0)), .val (.int (Int32.ofNat d1)), .val (.int (Int32.ofNat d2)), .val (.ref h0.size), .val (.ref h4.size), .unset] [])) _
  refine XS.iload X6.here hx rfl (hb hby at_75) rfl ?_
  show Steps p.tables e below (T6.setTop (mkF m 77 #[.val (.int p1), .val (.int p2), .val (.int p3), .val (.int p4), .val (.int p5), .val (.int (3 : Int32)), .val (.int (Int32.ofNat d0)), .val (.int (Int32.ofNat d1)), .val (.int (Int32.ofNat d2)), .val (.ref h0.size), .val (.ref h4.size), .unset] [(.int (3 : Int32))])) _
  refine XS.iconst X6.here hx rfl (hb hby at_77) ?_
  show Steps p.tables e below (T6.setTop (mkF m 78 #[.val (.int p1), .val (.int p2), .val (.int p3), .val (.int p4), .val (.int p5), .val (.int (3 : Int32)), .val (.int (Int32.ofNat d0)), .val (.int (Int32.ofNat d1)), .val (.int (Int32.ofNat d2)), .val (.ref h0.size), .val (.ref h4.size), .unset] [(.int (1 : Int32)), (.int (3 : Int32))])) _
  refine XS.icmpNo X6.here hx rfl (hb hby at_78) rfl (tlt (by decide)).2.2.2 ?_
  show Steps p.tables e below (T6.setTop (mkF m 81 #[.val (.int p1), .val (.int p2), .val (.int p3), .val (.int p4), .val (.int p5), .val (.int (3 : Int32)), .val (.int (Int32.ofNat d0)), .val (.int (Int32.ofNat d1)), .val (.int (Int32.ofNat d2)), .val (.ref h0.size), .val (.ref h4.size), .unset] [])) _
  refine XS.aload X6.here hx rfl (hb hby at_81) rfl rfl ?_
  show Steps p.tables e below (T6.setTop (mkF m 83 #[.val (.int p1), .val (.int p2), .val (.int p3), .val (.int p4), .val (.int p5), .val (.int (3 : Int32)), .val (.int (Int32.ofNat d0)), .val (.int (Int32.ofNat d1)), .val (.int (Int32.ofNat d2)), .val (.ref h0.size), .val (.ref h4.size), .unset] [(.ref h4.size)])) _
  refine XS.iconst X6.here hx rfl (hb hby at_83) ?_
  show Steps p.tables e below (T6.setTop (mkF m 84 #[.val (.int p1), .val (.int p2), .val (.int p3), .val (.int p4), .val (.int p5), .val (.int (3 : Int32)), .val (.int (Int32.ofNat d0)), .val (.int (Int32.ofNat d1)), .val (.int (Int32.ofNat d2)), .val (.ref h0.size), .val (.ref h4.size), .unset] [(.int (1 : Int32)), (.ref h4.size)])) _
  refine XS.iload X6.here hx rfl (hb hby at_84) rfl ?_
  show Steps p.tables e below (T6.setTop (mkF m 86 #[.val (.int p1), .val (.int p2), .val (.int p3), .val (.int p4), .val (.int p5), .val (.int (3 : Int32)), .val (.int (Int32.ofNat d0)), .val (.int (Int32.ofNat d1)), .val (.int (Int32.ofNat d2)), .val (.ref h0.size), .val (.ref h4.size), .unset] [(.int (Int32.ofNat d1)), (.int (1 : Int32)), (.ref h4.size)])) _
  refine st7 _ ?_
  show Steps p.tables e below (T7.setTop (mkF m 87 #[.val (.int p1), .val (.int p2), .val (.int p3), .val (.int p4), .val (.int p5), .val (.int (3 : Int32)), .val (.int (Int32.ofNat d0)), .val (.int (Int32.ofNat d1)), .val (.int (Int32.ofNat d2)), .val (.ref h0.size), .val (.ref h4.size), .unset] [])) _
  refine XS.iload X7.here hx rfl (hb hby at_87) rfl ?_
  show Steps p.tables e below (T7.setTop (mkF m 89 #[.val (.int p1), .val (.int p2), .val (.int p3), .val (.int p4), .val (.int p5), .val (.int (3 : Int32)), .val (.int (Int32.ofNat d0)), .val (.int (Int32.ofNat d1)), .val (.int (Int32.ofNat d2)), .val (.ref h0.size), .val (.ref h4.size), .unset] [(.int (3 : Int32))])) _
  refine XS.iconst X7.here hx rfl (hb hby at_89) ?_
  show Steps p.tables e below (T7.setTop (mkF m 90 #[.val (.int p1), .val (.int p2), .val (.int p3), .val (.int p4), .val (.int p5), .val (.int (3 : Int32)), .val (.int (Int32.ofNat d0)), .val (.int (Int32.ofNat d1)), .val (.int (Int32.ofNat d2)), .val (.ref h0.size), .val (.ref h4.size), .unset] [(.int (2 : Int32)), (.int (3 : Int32))])) _
  refine XS.icmpNo X7.here hx rfl (hb hby at_90) rfl (tlt (by decide)).2.2.2 ?_
  show Steps p.tables e below (T7.setTop (mkF m 93 #[.val (.int p1), .val (.int p2), .val (.int p3), .val (.int p4), .val (.int p5), .val (.int (3 : Int32)), .val (.int (Int32.ofNat d0)), .val (.int (Int32.ofNat d1)), .val (.int (Int32.ofNat d2)), .val (.ref h0.size), .val (.ref h4.size), .unset] [])) _
  refine XS.aload X7.here hx rfl (hb hby at_93) rfl rfl ?_
  show Steps p.tables e below (T7.setTop (mkF m 95 #[.val (.int p1), .val (.int p2), .val (.int p3), .val (.int p4), .val (.int p5), .val (.int (3 : Int32)), .val (.int (Int32.ofNat d0)), .val (.int (Int32.ofNat d1)), .val (.int (Int32.ofNat d2)), .val (.ref h0.size), .val (.ref h4.size), .unset] [(.ref h4.size)])) _
  refine XS.iconst X7.here hx rfl (hb hby at_95) ?_
  show Steps p.tables e below (T7.setTop (mkF m 96 #[.val (.int p1), .val (.int p2), .val (.int p3), .val (.int p4), .val (.int p5), .val (.int (3 : Int32)), .val (.int (Int32.ofNat d0)), .val (.int (Int32.ofNat d1)), .val (.int (Int32.ofNat d2)), .val (.ref h0.size), .val (.ref h4.size), .unset] [(.int (2 : Int32)), (.ref h4.size)])) _
  refine XS.iload X7.here hx rfl (hb hby at_96) rfl ?_
  show Steps p.tables e below (T7.setTop (mkF m 98 #[.val (.int p1), .val (.int p2), .val (.int p3), .val (.int p4), .val (.int p5), .val (.int (3 : Int32)), .val (.int (Int32.ofNat d0)), .val (.int (Int32.ofNat d1)), .val (.int (Int32.ofNat d2)), .val (.ref h0.size), .val (.ref h4.size), .unset] [(.int (Int32.ofNat d2)), (.int (2 : Int32)), (.ref h4.size)])) _
  refine st8 _ ?_
  exact kt
set_option maxRecDepth 65536 in
set_option maxHeartbeats 40000000 in
theorem fill {p : Program} {l : Launch} {e : Env} {s : State} {m : MethodId} {args : Array Value} {below : List Frame} {meth : Method} {c : Code} {T0 : State} {locs : List Loc} {Z : State} {a0 : Array Value} {h0 : Heap} {n0 : Nat} (p1 p2 p3 p4 p5 : Int32) (d0 d1 d2 n : Nat) (hn : n ≤ 3)
    (X0 : Stand p l e room_1 s m args below meth c T0 locs 0 0) (hx : p.tables.exec = Jvm.exec) (hZ : Z.Warmed39 s.vm) (hw : ∀ d ∈ tables_1, d.before a0 Z = true) (hby : c.code = code) (hown : s.vm.findClass "com/example/syngraft/syngraft/core/DiffTreeNumbersOfPinLaw" = some m.cls) (e0 : T0.heap = h0) (Z0 : n0 ≤ h0.size) (N0 : Fr n0 locs) :
    ∃ (T' : State) (h' : Heap) (o1 o2 : Addr) (locs' : List Loc), Stand p l e room_1 s m args below meth c T' locs' 2 6 ∧ T'.heap = h' ∧ Fr n0 locs' ∧ n0 ≤ h'.size ∧ AF Z h' o1 .int 3 (fun j => .int (own_N p1 p2 p3 j)) ∧ AF Z h' o2 .int n (fun j => .int (Int32.ofNat (own_d d0 d1 d2 j))) ∧
      ∀ target, Steps p.tables e below (T'.setTop (mkF m 99 #[.val (.int p1), .val (.int p2), .val (.int p3), .val (.int p4), .val (.int p5), .val (.int (Int32.ofNat n)), .val (.int (Int32.ofNat d0)), .val (.int (Int32.ofNat d1)), .val (.int (Int32.ofNat d2)), .val (.ref o1), .val (.ref o2), .unset] [])) target → Steps p.tables e below (T0.setTop (mkF m 42 #[.val (.int p1), .val (.int p2), .val (.int p3), .val (.int p4), .val (.int p5), .val (.int (Int32.ofNat n)), .val (.int (Int32.ofNat d0)), .val (.int (Int32.ofNat d1)), .val (.int (Int32.ofNat d2)), .unset, .unset, .unset] [(.int (3 : Int32))])) target := by
  rcases (by omega : n = 0 ∨ n = 1 ∨ n = 2 ∨ n = 3) with rfl | rfl | rfl | rfl
  · exact fill_0 p1 p2 p3 p4 p5 d0 d1 d2 X0 hx hZ hw hby hown e0 Z0 N0
  · exact fill_1 p1 p2 p3 p4 p5 d0 d1 d2 X0 hx hZ hw hby hown e0 Z0 N0
  · exact fill_2 p1 p2 p3 p4 p5 d0 d1 d2 X0 hx hZ hw hby hown e0 Z0 N0
  · exact fill_3 p1 p2 p3 p4 p5 d0 d1 d2 X0 hx hZ hw hby hown e0 Z0 N0
theorem pd_0_pick : parseMethodDescriptor "(IIII)I" = some ⟨[.int, .int, .int, .int], some .int⟩ := by decide +kernel
theorem pd_0_num : parseMethodDescriptor "([I[I)[I" = some ⟨[(.array .int), (.array .int)], some (.array .int)⟩ := by decide +kernel
set_option maxRecDepth 65536 in
set_option maxHeartbeats 40000000 in
theorem tail_0 {p : Program} {l : Launch} {e : Env} {s : State} {m : MethodId} {args : Array Value} {below : List Frame} {meth : Method} {c : Code} {T0 : State} {locs : List Loc} {Z : State} {a0 : Array Value} {h0 : Heap} {n0 : Nat} (p1 p2 p3 p4 p5 : Int32) (d0 d1 d2 : Nat) (o1 o2 o3 : Addr)
    (X0 : Stand p l e room_1 s m args below meth c T0 locs 3 9) (hx : p.tables.exec = Jvm.exec) (hZ : Z.Warmed39 s.vm) (hw : ∀ d ∈ tables_1, d.before a0 Z = true) (hby : c.code = code) (hown : s.vm.findClass "com/example/syngraft/syngraft/core/DiffTreeNumbersOfPinLaw" = some m.cls) (e0 : T0.heap = h0) (hml : c.maxLocals = 12) (Z0 : n0 ≤ h0.size) (N0 : Fr n0 locs) (hd0 : d0 < 3) (hd1 : d1 < 3) (hd2 : d2 < 3) (ne1 : o3 ≠ o1) (ne2 : o3 ≠ o2) (V1 : AF Z h0 o1 .int 3 (fun j => .int (own_N p1 p2 p3 j))) (V2 : AF Z h0 o2 .int 0 (fun j => .int (Int32.ofNat (own_d d0 d1 d2 j)))) (V3 : AF Z h0 o3 .int 0 (fun j => .int (own_N p1 p2 p3 (own_d d0 d1 d2 j)))) :
    ∃ (T' : State) (locs' : List Loc), Stand p l e room_1 s m args below meth c T' locs' 3 9 ∧ T'.heap = h0 ∧ Fr n0 locs' ∧
      ∀ target, Steps p.tables e below (T'.setTop (mkF m 282 #[.val (.int p1), .val (.int p2), .val (.int p3), .val (.int p4), .val (.int p5), .val (.int (0 : Int32)), .val (.int (Int32.ofNat d0)), .val (.int (Int32.ofNat d1)), .val (.int (Int32.ofNat d2)), .val (.ref o1), .val (.ref o2), .val (.ref o3)] [(.int (1 : Int32))])) target → Steps p.tables e below (T0.setTop (mkF m 106 #[.val (.int p1), .val (.int p2), .val (.int p3), .val (.int p4), .val (.int p5), .val (.int (0 : Int32)), .val (.int (Int32.ofNat d0)), .val (.int (Int32.ofNat d1)), .val (.int (Int32.ofNat d2)), .val (.ref o1), .val (.ref o2), .unset] [(.ref o3)])) target := by
  obtain ⟨cN, ArN, SN, HN⟩ := V1
  obtain ⟨cI, ArI, SI, HI⟩ := V2
  obtain ⟨cO, ArO, SO, HO⟩ := V3
  have SO' : cO.slots.size = (0 : Int32).toNatClampNeg := SO
  refine ⟨T0, _, X0, e0, N0, fun target kt => ?_⟩
  show Steps p.tables e below (T0.setTop (mkF m 106 #[.val (.int p1), .val (.int p2), .val (.int p3), .val (.int p4), .val (.int p5), .val (.int (0 : Int32)), .val (.int (Int32.ofNat d0)), .val (.int (Int32.ofNat d1)), .val (.int (Int32.ofNat d2)), .val (.ref o1), .val (.ref o2), .unset] [(.ref o3)])) _
  refine XS.astore X0.here hx rfl (hb hby at_106) rfl rfl (l' := #[.val (.int p1), .val (.int p2), .val (.int p3), .val (.int p4), .val (.int p5), .val (.int (0 : Int32)), .val (.int (Int32.ofNat d0)), .val (.int (Int32.ofNat d1)), .val (.int (Int32.ofNat d2)), .val (.ref o1), .val (.ref o2), .val (.ref o3)]) rfl ?_
  show Steps p.tables e below (T0.setTop (mkF m 108 #[.val (.int p1), .val (.int p2), .val (.int p3), .val (.int p4), .val (.int p5), .val (.int (0 : Int32)), .val (.int (Int32.ofNat d0)), .val (.int (Int32.ofNat d1)), .val (.int (Int32.ofNat d2)), .val (.ref o1), .val (.ref o2), .val (.ref o3)] [])) _
  refine XS.aload X0.here hx rfl (hb hby at_108) rfl rfl ?_
  show Steps p.tables e below (T0.setTop (mkF m 110 #[.val (.int p1), .val (.int p2), .val (.int p3), .val (.int p4), .val (.int p5), .val (.int (0 : Int32)), .val (.int (Int32.ofNat d0)), .val (.int (Int32.ofNat d1)), .val (.int (Int32.ofNat d2)), .val (.ref o1), .val (.ref o2), .val (.ref o3)] [(.ref o3)])) _
  refine XS.ifnullNo X0.here hx rfl (hb hby at_110) rfl ?_
  show Steps p.tables e below (T0.setTop (mkF m 113 #[.val (.int p1), .val (.int p2), .val (.int p3), .val (.int p4), .val (.int p5), .val (.int (0 : Int32)), .val (.int (Int32.ofNat d0)), .val (.int (Int32.ofNat d1)), .val (.int (Int32.ofNat d2)), .val (.ref o1), .val (.ref o2), .val (.ref o3)] [])) _
  refine XS.aload X0.here hx rfl (hb hby at_113) rfl rfl ?_
  show Steps p.tables e below (T0.setTop (mkF m 115 #[.val (.int p1), .val (.int p2), .val (.int p3), .val (.int p4), .val (.int p5), .val (.int (0 : Int32)), .val (.int (Int32.ofNat d0)), .val (.int (Int32.ofNat d1)), .val (.int (Int32.ofNat d2)), .val (.ref o1), .val (.ref o2), .val (.ref o3)] [(.ref o3)])) _
  refine X0.arraylength hx (by rw [e0]; exact ArO.1) (State.isArrayOf_alike hZ.alike ArO.2.1) (g := (mkF m 115 #[.val (.int p1), .val (.int p2), .val (.int p3), .val (.int p4), .val (.int p5), .val (.int (0 : Int32)), .val (.int (Int32.ofNat d0)), .val (.int (Int32.ofNat d1)), .val (.int (Int32.ofNat d2)), .val (.ref o1), .val (.ref o2), .val (.ref o3)] [(.ref o3)])) rfl rfl (hb hby at_115) _ ?_
  rw [len_of SO' (by decide)]
  show Steps p.tables e below (T0.setTop (mkF m 116 #[.val (.int p1), .val (.int p2), .val (.int p3), .val (.int p4), .val (.int p5), .val (.int (0 : Int32)), .val (.int (Int32.ofNat d0)), .val (.int (Int32.ofNat d1)), .val (.int (Int32.ofNat d2)), .val (.ref o1), .val (.ref o2), .val (.ref o3)] [(.int (0 : Int32))])) _
  refine XS.iload X0.here hx rfl (hb hby at_116) rfl ?_
  show Steps p.tables e below (T0.setTop (mkF m 118 #[.val (.int p1), .val (.int p2), .val (.int p3), .val (.int p4), .val (.int p5), .val (.int (0 : Int32)), .val (.int (Int32.ofNat d0)), .val (.int (Int32.ofNat d1)), .val (.int (Int32.ofNat d2)), .val (.ref o1), .val (.ref o2), .val (.ref o3)] [(.int (0 : Int32)), (.int (0 : Int32))])) _
  refine XS.icmpNo X0.here hx rfl (hb hby at_118) rfl (teq (rfl : (0 : Int32) = (0 : Int32))).2 ?_
  show Steps p.tables e below (T0.setTop (mkF m 121 #[.val (.int p1), .val (.int p2), .val (.int p3), .val (.int p4), .val (.int p5), .val (.int (0 : Int32)), .val (.int (Int32.ofNat d0)), .val (.int (Int32.ofNat d1)), .val (.int (Int32.ofNat d2)), .val (.ref o1), .val (.ref o2), .val (.ref o3)] [])) _
  refine XS.aload X0.here hx rfl (hb hby at_121) rfl rfl ?_
  show Steps p.tables e below (T0.setTop (mkF m 123 #[.val (.int p1), .val (.int p2), .val (.int p3), .val (.int p4), .val (.int p5), .val (.int (0 : Int32)), .val (.int (Int32.ofNat d0)), .val (.int (Int32.ofNat d1)), .val (.int (Int32.ofNat d2)), .val (.ref o1), .val (.ref o2), .val (.ref o3)] [(.ref o3)])) _
  refine XS.aload X0.here hx rfl (hb hby at_123) rfl rfl ?_
  show Steps p.tables e below (T0.setTop (mkF m 125 #[.val (.int p1), .val (.int p2), .val (.int p3), .val (.int p4), .val (.int p5), .val (.int (0 : Int32)), .val (.int (Int32.ofNat d0)), .val (.int (Int32.ofNat d1)), .val (.int (Int32.ofNat d2)), .val (.ref o1), .val (.ref o2), .val (.ref o3)] [(.ref o1), (.ref o3)])) _
  refine Jvm.RoadKit.acmp (g := (mkF m 125 #[.val (.int p1), .val (.int p2), .val (.int p3), .val (.int p4), .val (.int p5), .val (.int (0 : Int32)), .val (.int (Int32.ofNat d0)), .val (.int (Int32.ofNat d1)), .val (.int (Int32.ofNat d2)), .val (.ref o1), .val (.ref o2), .val (.ref o3)] [(.ref o1), (.ref o3)])) X0 hx rfl rfl rfl (pc0 := 125) (pc' := 128) (same := false) rfl (hb hby at_125) rfl (decide_eq_false fun q => ne1 (Value.ref.inj q)) (by decide) (by decide) ?_
  show Steps p.tables e below (T0.setTop (mkF m 128 #[.val (.int p1), .val (.int p2), .val (.int p3), .val (.int p4), .val (.int p5), .val (.int (0 : Int32)), .val (.int (Int32.ofNat d0)), .val (.int (Int32.ofNat d1)), .val (.int (Int32.ofNat d2)), .val (.ref o1), .val (.ref o2), .val (.ref o3)] [])) _
  refine XS.aload X0.here hx rfl (hb hby at_128) rfl rfl ?_
  show Steps p.tables e below (T0.setTop (mkF m 130 #[.val (.int p1), .val (.int p2), .val (.int p3), .val (.int p4), .val (.int p5), .val (.int (0 : Int32)), .val (.int (Int32.ofNat d0)), .val (.int (Int32.ofNat d1)), .val (.int (Int32.ofNat d2)), .val (.ref o1), .val (.ref o2), .val (.ref o3)] [(.ref o3)])) _
  refine XS.aload X0.here hx rfl (hb hby at_130) rfl rfl ?_
  show Steps p.tables e below (T0.setTop (mkF m 132 #[.val (.int p1), .val (.int p2), .val (.int p3), .val (.int p4), .val (.int p5), .val (.int (0 : Int32)), .val (.int (Int32.ofNat d0)), .val (.int (Int32.ofNat d1)), .val (.int (Int32.ofNat d2)), .val (.ref o1), .val (.ref o2), .val (.ref o3)] [(.ref o2), (.ref o3)])) _
  refine Jvm.RoadKit.acmp (g := (mkF m 132 #[.val (.int p1), .val (.int p2), .val (.int p3), .val (.int p4), .val (.int p5), .val (.int (0 : Int32)), .val (.int (Int32.ofNat d0)), .val (.int (Int32.ofNat d1)), .val (.int (Int32.ofNat d2)), .val (.ref o1), .val (.ref o2), .val (.ref o3)] [(.ref o2), (.ref o3)])) X0 hx rfl rfl rfl (pc0 := 132) (pc' := 137) (same := false) rfl (hb hby at_132) rfl (decide_eq_false fun q => ne2 (Value.ref.inj q)) (by decide) (by decide) ?_
  show Steps p.tables e below (T0.setTop (mkF m 137 #[.val (.int p1), .val (.int p2), .val (.int p3), .val (.int p4), .val (.int p5), .val (.int (0 : Int32)), .val (.int (Int32.ofNat d0)), .val (.int (Int32.ofNat d1)), .val (.int (Int32.ofNat d2)), .val (.ref o1), .val (.ref o2), .val (.ref o3)] [])) _
  refine XS.iload X0.here hx rfl (hb hby at_137) rfl ?_
  show Steps p.tables e below (T0.setTop (mkF m 139 #[.val (.int p1), .val (.int p2), .val (.int p3), .val (.int p4), .val (.int p5), .val (.int (0 : Int32)), .val (.int (Int32.ofNat d0)), .val (.int (Int32.ofNat d1)), .val (.int (Int32.ofNat d2)), .val (.ref o1), .val (.ref o2), .val (.ref o3)] [(.int (0 : Int32))])) _
  refine XS.ifYes X0.here hx rfl (pc0 := 139) (pc' := 159) rfl (hb hby at_139) rfl ((if0 _ _).trans (flt (by decide)).2.2.2) (by decide) (by decide) ?_
  show Steps p.tables e below (T0.setTop (mkF m 159 #[.val (.int p1), .val (.int p2), .val (.int p3), .val (.int p4), .val (.int p5), .val (.int (0 : Int32)), .val (.int (Int32.ofNat d0)), .val (.int (Int32.ofNat d1)), .val (.int (Int32.ofNat d2)), .val (.ref o1), .val (.ref o2), .val (.ref o3)] [])) _
  refine XS.iload X0.here hx rfl (hb hby at_159) rfl ?_
  show Steps p.tables e below (T0.setTop (mkF m 161 #[.val (.int p1), .val (.int p2), .val (.int p3), .val (.int p4), .val (.int p5), .val (.int (0 : Int32)), .val (.int (Int32.ofNat d0)), .val (.int (Int32.ofNat d1)), .val (.int (Int32.ofNat d2)), .val (.ref o1), .val (.ref o2), .val (.ref o3)] [(.int (0 : Int32))])) _
  refine XS.iconst X0.here hx rfl (hb hby at_161) ?_
  show Steps p.tables e below (T0.setTop (mkF m 162 #[.val (.int p1), .val (.int p2), .val (.int p3), .val (.int p4), .val (.int p5), .val (.int (0 : Int32)), .val (.int (Int32.ofNat d0)), .val (.int (Int32.ofNat d1)), .val (.int (Int32.ofNat d2)), .val (.ref o1), .val (.ref o2), .val (.ref o3)] [(.int (1 : Int32)), (.int (0 : Int32))])) _
  refine XS.icmpYes X0.here hx rfl (pc0 := 162) (pc' := 182) rfl (hb hby at_162) rfl (flt (by decide)).2.2.2 (by decide) (by decide) ?_
  show Steps p.tables e below (T0.setTop (mkF m 182 #[.val (.int p1), .val (.int p2), .val (.int p3), .val (.int p4), .val (.int p5), .val (.int (0 : Int32)), .val (.int (Int32.ofNat d0)), .val (.int (Int32.ofNat d1)), .val (.int (Int32.ofNat d2)), .val (.ref o1), .val (.ref o2), .val (.ref o3)] [])) _
  refine XS.iload X0.here hx rfl (hb hby at_182) rfl ?_
  show Steps p.tables e below (T0.setTop (mkF m 184 #[.val (.int p1), .val (.int p2), .val (.int p3), .val (.int p4), .val (.int p5), .val (.int (0 : Int32)), .val (.int (Int32.ofNat d0)), .val (.int (Int32.ofNat d1)), .val (.int (Int32.ofNat d2)), .val (.ref o1), .val (.ref o2), .val (.ref o3)] [(.int (0 : Int32))])) _
  refine XS.iconst X0.here hx rfl (hb hby at_184) ?_
  show Steps p.tables e below (T0.setTop (mkF m 185 #[.val (.int p1), .val (.int p2), .val (.int p3), .val (.int p4), .val (.int p5), .val (.int (0 : Int32)), .val (.int (Int32.ofNat d0)), .val (.int (Int32.ofNat d1)), .val (.int (Int32.ofNat d2)), .val (.ref o1), .val (.ref o2), .val (.ref o3)] [(.int (2 : Int32)), (.int (0 : Int32))])) _
  refine XS.icmpYes X0.here hx rfl (pc0 := 185) (pc' := 205) rfl (hb hby at_185) rfl (flt (by decide)).2.2.2 (by decide) (by decide) ?_
  show Steps p.tables e below (T0.setTop (mkF m 205 #[.val (.int p1), .val (.int p2), .val (.int p3), .val (.int p4), .val (.int p5), .val (.int (0 : Int32)), .val (.int (Int32.ofNat d0)), .val (.int (Int32.ofNat d1)), .val (.int (Int32.ofNat d2)), .val (.ref o1), .val (.ref o2), .val (.ref o3)] [])) _
  refine XS.aload X0.here hx rfl (hb hby at_205) rfl rfl ?_
  show Steps p.tables e below (T0.setTop (mkF m 207 #[.val (.int p1), .val (.int p2), .val (.int p3), .val (.int p4), .val (.int p5), .val (.int (0 : Int32)), .val (.int (Int32.ofNat d0)), .val (.int (Int32.ofNat d1)), .val (.int (Int32.ofNat d2)), .val (.ref o1), .val (.ref o2), .val (.ref o3)] [(.ref o1)])) _
  refine XS.iconst X0.here hx rfl (hb hby at_207) ?_
  show Steps p.tables e below (T0.setTop (mkF m 208 #[.val (.int p1), .val (.int p2), .val (.int p3), .val (.int p4), .val (.int p5), .val (.int (0 : Int32)), .val (.int (Int32.ofNat d0)), .val (.int (Int32.ofNat d1)), .val (.int (Int32.ofNat d2)), .val (.ref o1), .val (.ref o2), .val (.ref o3)] [(.int (0 : Int32)), (.ref o1)])) _
  refine X0.iaload hx (j := (0 : Int32)) (v := (.int p1)) (by rw [e0]; exact ArN.1) (State.isArrayOf_alike hZ.alike ArN.2.1) ArN.2.2 (by rw [SN]; decide) (show cN.slots[(0 : Int32).toNatClampNeg]? = _ from HN 0 (by decide)) (g := (mkF m 208 #[.val (.int p1), .val (.int p2), .val (.int p3), .val (.int p4), .val (.int p5), .val (.int (0 : Int32)), .val (.int (Int32.ofNat d0)), .val (.int (Int32.ofNat d1)), .val (.int (Int32.ofNat d2)), .val (.ref o1), .val (.ref o2), .val (.ref o3)] [(.int (0 : Int32)), (.ref o1)])) rfl rfl (hb hby at_208) _ ?_
  show Steps p.tables e below (T0.setTop (mkF m 209 #[.val (.int p1), .val (.int p2), .val (.int p3), .val (.int p4), .val (.int p5), .val (.int (0 : Int32)), .val (.int (Int32.ofNat d0)), .val (.int (Int32.ofNat d1)), .val (.int (Int32.ofNat d2)), .val (.ref o1), .val (.ref o2), .val (.ref o3)] [(.int p1)])) _
  refine XS.iloadN X0.here hx rfl (hb hby at_209) rfl ?_
  show Steps p.tables e below (T0.setTop (mkF m 210 #[.val (.int p1), .val (.int p2), .val (.int p3), .val (.int p4), .val (.int p5), .val (.int (0 : Int32)), .val (.int (Int32.ofNat d0)), .val (.int (Int32.ofNat d1)), .val (.int (Int32.ofNat d2)), .val (.ref o1), .val (.ref o2), .val (.ref o3)] [(.int p1), (.int p1)])) _
  refine XS.icmpNo X0.here hx rfl (hb hby at_210) rfl (teq (rfl : p1 = p1)).2 ?_
  show Steps p.tables e below (T0.setTop (mkF m 213 #[.val (.int p1), .val (.int p2), .val (.int p3), .val (.int p4), .val (.int p5), .val (.int (0 : Int32)), .val (.int (Int32.ofNat d0)), .val (.int (Int32.ofNat d1)), .val (.int (Int32.ofNat d2)), .val (.ref o1), .val (.ref o2), .val (.ref o3)] [])) _
  refine XS.aload X0.here hx rfl (hb hby at_213) rfl rfl ?_
  show Steps p.tables e below (T0.setTop (mkF m 215 #[.val (.int p1), .val (.int p2), .val (.int p3), .val (.int p4), .val (.int p5), .val (.int (0 : Int32)), .val (.int (Int32.ofNat d0)), .val (.int (Int32.ofNat d1)), .val (.int (Int32.ofNat d2)), .val (.ref o1), .val (.ref o2), .val (.ref o3)] [(.ref o1)])) _
  refine XS.iconst X0.here hx rfl (hb hby at_215) ?_
  show Steps p.tables e below (T0.setTop (mkF m 216 #[.val (.int p1), .val (.int p2), .val (.int p3), .val (.int p4), .val (.int p5), .val (.int (0 : Int32)), .val (.int (Int32.ofNat d0)), .val (.int (Int32.ofNat d1)), .val (.int (Int32.ofNat d2)), .val (.ref o1), .val (.ref o2), .val (.ref o3)] [(.int (1 : Int32)), (.ref o1)])) _
  refine X0.iaload hx (j := (1 : Int32)) (v := (.int p2)) (by rw [e0]; exact ArN.1) (State.isArrayOf_alike hZ.alike ArN.2.1) ArN.2.2 (by rw [SN]; decide) (show cN.slots[(1 : Int32).toNatClampNeg]? = _ from HN 1 (by decide)) (g := (mkF m 216 #[.val (.int p1), .val (.int p2), .val (.int p3), .val (.int p4), .val (.int p5), .val (.int (0 : Int32)), .val (.int (Int32.ofNat d0)), .val (.int (Int32.ofNat d1)), .val (.int (Int32.ofNat d2)), .val (.ref o1), .val (.ref o2), .val (.ref o3)] [(.int (1 : Int32)), (.ref o1)])) rfl rfl (hb hby at_216) _ ?_
  show Steps p.tables e below (T0.setTop (mkF m 217 #[.val (.int p1), .val (.int p2), .val (.int p3), .val (.int p4), .val (.int p5), .val (.int (0 : Int32)), .val (.int (Int32.ofNat d0)), .val (.int (Int32.ofNat d1)), .val (.int (Int32.ofNat d2)), .val (.ref o1), .val (.ref o2), .val (.ref o3)] [(.int p2)])) _
  refine XS.iloadN X0.here hx rfl (hb hby at_217) rfl ?_
  show Steps p.tables e below (T0.setTop (mkF m 218 #[.val (.int p1), .val (.int p2), .val (.int p3), .val (.int p4), .val (.int p5), .val (.int (0 : Int32)), .val (.int (Int32.ofNat d0)), .val (.int (Int32.ofNat d1)), .val (.int (Int32.ofNat d2)), .val (.ref o1), .val (.ref o2), .val (.ref o3)] [(.int p2), (.int p2)])) _
  refine XS.icmpNo X0.here hx rfl (hb hby at_218) rfl (teq (rfl : p2 = p2)).2 ?_
  show Steps p.tables e below (T0.setTop (mkF m 221 #[.val (.int p1), .val (.int p2), .val (.int p3), .val (.int p4), .val (.int p5), .val (.int (0 : Int32)), .val (.int (Int32.ofNat d0)), .val (.int (Int32.ofNat d1)), .val (.int (Int32.ofNat d2)), .val (.ref o1), .val (.ref o2), .val (.ref o3)] [])) _
  refine XS.aload X0.here hx rfl (hb hby at_221) rfl rfl ?_
  show Steps p.tables e below (T0.setTop (mkF m 223 #[.val (.int p1), .val (.int p2), .val (.int p3), .val (.int p4), .val (.int p5), .val (.int (0 : Int32)), .val (.int (Int32.ofNat d0)), .val (.int (Int32.ofNat d1)), .val (.int (Int32.ofNat d2)), .val (.ref o1), .val (.ref o2), .val (.ref o3)] [(.ref o1)])) _
  refine XS.iconst X0.here hx rfl (hb hby at_223) ?_
  show Steps p.tables e below (T0.setTop (mkF m 224 #[.val (.int p1), .val (.int p2), .val (.int p3), .val (.int p4), .val (.int p5), .val (.int (0 : Int32)), .val (.int (Int32.ofNat d0)), .val (.int (Int32.ofNat d1)), .val (.int (Int32.ofNat d2)), .val (.ref o1), .val (.ref o2), .val (.ref o3)] [(.int (2 : Int32)), (.ref o1)])) _
  refine X0.iaload hx (j := (2 : Int32)) (v := (.int p3)) (by rw [e0]; exact ArN.1) (State.isArrayOf_alike hZ.alike ArN.2.1) ArN.2.2 (by rw [SN]; decide) (show cN.slots[(2 : Int32).toNatClampNeg]? = _ from HN 2 (by decide)) (g := (mkF m 224 #[.val (.int p1), .val (.int p2), .val (.int p3), .val (.int p4), .val (.int p5), .val (.int (0 : Int32)), .val (.int (Int32.ofNat d0)), .val (.int (Int32.ofNat d1)), .val (.int (Int32.ofNat d2)), .val (.ref o1), .val (.ref o2), .val (.ref o3)] [(.int (2 : Int32)), (.ref o1)])) rfl rfl (hb hby at_224) _ ?_
  show Steps p.tables e below (T0.setTop (mkF m 225 #[.val (.int p1), .val (.int p2), .val (.int p3), .val (.int p4), .val (.int p5), .val (.int (0 : Int32)), .val (.int (Int32.ofNat d0)), .val (.int (Int32.ofNat d1)), .val (.int (Int32.ofNat d2)), .val (.ref o1), .val (.ref o2), .val (.ref o3)] [(.int p3)])) _
  refine XS.iloadN X0.here hx rfl (hb hby at_225) rfl ?_
  show Steps p.tables e below (T0.setTop (mkF m 226 #[.val (.int p1), .val (.int p2), .val (.int p3), .val (.int p4), .val (.int p5), .val (.int (0 : Int32)), .val (.int (Int32.ofNat d0)), .val (.int (Int32.ofNat d1)), .val (.int (Int32.ofNat d2)), .val (.ref o1), .val (.ref o2), .val (.ref o3)] [(.int p3), (.int p3)])) _
  refine XS.icmpYes X0.here hx rfl (pc0 := 226) (pc' := 231) rfl (hb hby at_226) rfl (teq (rfl : p3 = p3)).1 (by decide) (by decide) ?_
  show Steps p.tables e below (T0.setTop (mkF m 231 #[.val (.int p1), .val (.int p2), .val (.int p3), .val (.int p4), .val (.int p5), .val (.int (0 : Int32)), .val (.int (Int32.ofNat d0)), .val (.int (Int32.ofNat d1)), .val (.int (Int32.ofNat d2)), .val (.ref o1), .val (.ref o2), .val (.ref o3)] [])) _
  refine XS.iload X0.here hx rfl (hb hby at_231) rfl ?_
  show Steps p.tables e below (T0.setTop (mkF m 233 #[.val (.int p1), .val (.int p2), .val (.int p3), .val (.int p4), .val (.int p5), .val (.int (0 : Int32)), .val (.int (Int32.ofNat d0)), .val (.int (Int32.ofNat d1)), .val (.int (Int32.ofNat d2)), .val (.ref o1), .val (.ref o2), .val (.ref o3)] [(.int (0 : Int32))])) _
  refine XS.ifYes X0.here hx rfl (pc0 := 233) (pc' := 247) rfl (hb hby at_233) rfl ((if0 _ _).trans (flt (by decide)).2.2.2) (by decide) (by decide) ?_
  show Steps p.tables e below (T0.setTop (mkF m 247 #[.val (.int p1), .val (.int p2), .val (.int p3), .val (.int p4), .val (.int p5), .val (.int (0 : Int32)), .val (.int (Int32.ofNat d0)), .val (.int (Int32.ofNat d1)), .val (.int (Int32.ofNat d2)), .val (.ref o1), .val (.ref o2), .val (.ref o3)] [])) _
  refine XS.iload X0.here hx rfl (hb hby at_247) rfl ?_
  show Steps p.tables e below (T0.setTop (mkF m 249 #[.val (.int p1), .val (.int p2), .val (.int p3), .val (.int p4), .val (.int p5), .val (.int (0 : Int32)), .val (.int (Int32.ofNat d0)), .val (.int (Int32.ofNat d1)), .val (.int (Int32.ofNat d2)), .val (.ref o1), .val (.ref o2), .val (.ref o3)] [(.int (0 : Int32))])) _
  refine XS.iconst X0.here hx rfl (hb hby at_249) ?_
  show Steps p.tables e below (T0.setTop (mkF m 250 #[.val (.int p1), .val (.int p2), .val (.int p3), .val (.int p4), .val (.int p5), .val (.int (0 : Int32)), .val (.int (Int32.ofNat d0)), .val (.int (Int32.ofNat d1)), .val (.int (Int32.ofNat d2)), .val (.ref o1), .val (.ref o2), .val (.ref o3)] [(.int (1 : Int32)), (.int (0 : Int32))])) _
  refine XS.icmpYes X0.here hx rfl (pc0 := 250) (pc' := 264) rfl (hb hby at_250) rfl (flt (by decide)).2.2.2 (by decide) (by decide) ?_
  show Steps p.tables e below (T0.setTop (mkF m 264 #[.val (.int p1), .val (.int p2), .val (.int p3), .val (.int p4), .val (.int p5), .val (.int (0 : Int32)), .val (.int (Int32.ofNat d0)), .val (.int (Int32.ofNat d1)), .val (.int (Int32.ofNat d2)), .val (.ref o1), .val (.ref o2), .val (.ref o3)] [])) _
  refine XS.iload X0.here hx rfl (hb hby at_264) rfl ?_
  show Steps p.tables e below (T0.setTop (mkF m 266 #[.val (.int p1), .val (.int p2), .val (.int p3), .val (.int p4), .val (.int p5), .val (.int (0 : Int32)), .val (.int (Int32.ofNat d0)), .val (.int (Int32.ofNat d1)), .val (.int (Int32.ofNat d2)), .val (.ref o1), .val (.ref o2), .val (.ref o3)] [(.int (0 : Int32))])) _
  refine XS.iconst X0.here hx rfl (hb hby at_266) ?_
  show Steps p.tables e below (T0.setTop (mkF m 267 #[.val (.int p1), .val (.int p2), .val (.int p3), .val (.int p4), .val (.int p5), .val (.int (0 : Int32)), .val (.int (Int32.ofNat d0)), .val (.int (Int32.ofNat d1)), .val (.int (Int32.ofNat d2)), .val (.ref o1), .val (.ref o2), .val (.ref o3)] [(.int (2 : Int32)), (.int (0 : Int32))])) _
  refine XS.icmpYes X0.here hx rfl (pc0 := 267) (pc' := 281) rfl (hb hby at_267) rfl (flt (by decide)).2.2.2 (by decide) (by decide) ?_
  show Steps p.tables e below (T0.setTop (mkF m 281 #[.val (.int p1), .val (.int p2), .val (.int p3), .val (.int p4), .val (.int p5), .val (.int (0 : Int32)), .val (.int (Int32.ofNat d0)), .val (.int (Int32.ofNat d1)), .val (.int (Int32.ofNat d2)), .val (.ref o1), .val (.ref o2), .val (.ref o3)] [])) _
  refine XS.iconst X0.here hx rfl (hb hby at_281) ?_
  exact kt
set_option maxRecDepth 65536 in
set_option maxHeartbeats 40000000 in
theorem tail_1 {p : Program} {l : Launch} {e : Env} {s : State} {m : MethodId} {args : Array Value} {below : List Frame} {meth : Method} {c : Code} {T0 : State} {locs : List Loc} {Z : State} {a0 : Array Value} {h0 : Heap} {n0 : Nat} (p1 p2 p3 p4 p5 : Int32) (d0 d1 d2 : Nat) (o1 o2 o3 : Addr)
    (X0 : Stand p l e room_1 s m args below meth c T0 locs 3 9) (hx : p.tables.exec = Jvm.exec) (hZ : Z.Warmed39 s.vm) (hw : ∀ d ∈ tables_1, d.before a0 Z = true) (hby : c.code = code) (hown : s.vm.findClass "com/example/syngraft/syngraft/core/DiffTreeNumbersOfPinLaw" = some m.cls) (e0 : T0.heap = h0) (hml : c.maxLocals = 12) (Z0 : n0 ≤ h0.size) (N0 : Fr n0 locs) (hd0 : d0 < 3) (hd1 : d1 < 3) (hd2 : d2 < 3) (ne1 : o3 ≠ o1) (ne2 : o3 ≠ o2) (V1 : AF Z h0 o1 .int 3 (fun j => .int (own_N p1 p2 p3 j))) (V2 : AF Z h0 o2 .int 1 (fun j => .int (Int32.ofNat (own_d d0 d1 d2 j)))) (V3 : AF Z h0 o3 .int 1 (fun j => .int (own_N p1 p2 p3 (own_d d0 d1 d2 j)))) :
    ∃ (T' : State) (locs' : List Loc), Stand p l e room_1 s m args below meth c T' locs' 3 9 ∧ T'.heap = h0 ∧ Fr n0 locs' ∧
      ∀ target, Steps p.tables e below (T'.setTop (mkF m 282 #[.val (.int p1), .val (.int p2), .val (.int p3), .val (.int p4), .val (.int p5), .val (.int (1 : Int32)), .val (.int (Int32.ofNat d0)), .val (.int (Int32.ofNat d1)), .val (.int (Int32.ofNat d2)), .val (.ref o1), .val (.ref o2), .val (.ref o3)] [(.int (1 : Int32))])) target → Steps p.tables e below (T0.setTop (mkF m 106 #[.val (.int p1), .val (.int p2), .val (.int p3), .val (.int p4), .val (.int p5), .val (.int (1 : Int32)), .val (.int (Int32.ofNat d0)), .val (.int (Int32.ofNat d1)), .val (.int (Int32.ofNat d2)), .val (.ref o1), .val (.ref o2), .unset] [(.ref o3)])) target := by
  obtain ⟨cN, ArN, SN, HN⟩ := V1
  obtain ⟨cI, ArI, SI, HI⟩ := V2
  obtain ⟨cO, ArO, SO, HO⟩ := V3
  have SO' : cO.slots.size = (1 : Int32).toNatClampNeg := SO
  obtain ⟨_, _, ⟨T1, L1, k1, n1⟩, -, X1, ⟨Lc1, hQ1, l1, y1, z1⟩, st1⟩ := Jvm.LawKit.callS X0 hx (y := (⟨"com/example/syngraft/syngraft/core/DiffTreeNumbersOfPinLaw", "pick", "(IIII)I"⟩ : MethodName)) hown (mvT hZ (hw _ (List.mem_of_getElem? (i := 5) rfl))) (mvT hZ (hw _ (List.mem_of_getElem? (i := 6) rfl))) (mvT hZ (hw _ (List.mem_of_getElem? (i := 7) rfl))) (mvT hZ (hw _ (List.mem_of_getElem? (i := 8) rfl))) (by decide) (backOf (W := 1) (rm2 l Z a0 hw [] p1 p2 p3 (Int32.ofNat d0) h0 n0 Z0) hZ (hw _ (List.mem_of_getElem? (i := 8) rfl)) (hw _ (List.mem_of_getElem? (i := 7) rfl)) (by decide) (by decide)) (g := (mkF m 151 #[.val (.int p1), .val (.int p2), .val (.int p3), .val (.int p4), .val (.int p5), .val (.int (1 : Int32)), .val (.int (Int32.ofNat d0)), .val (.int (Int32.ofNat d1)), .val (.int (Int32.ofNat d2)), .val (.ref o1), .val (.ref o2), .val (.ref o3)] [(.int (Int32.ofNat d0)), (.int p3), (.int p2), (.int p1), (.int (own_N p1 p2 p3 d0))])) rfl (by rw [hml]; rfl) (argsL := [(.int p1), (.int p2), (.int p3), (.int (Int32.ofNat d0))]) (rest := [(.int (own_N p1 p2 p3 d0))]) (lenOf pd_0_pick rfl) rfl (by show 2 * 0 + _ ≤ _; exact Nat.le_of_eq rfl) (hb hby at_151) (fun _ _ => ⟨rfl, e0, (by decide : 3 + 0 ≤ _), (by decide : 9 + 0 ≤ _)⟩)
  dsimp only [Pt.U, Pt.locs, Pt.cells, Pt.slots] at X1 l1 y1 z1 st1 hQ1
  subst l1 y1 z1
  obtain ⟨rfl, N1q, e1⟩ := hQ1
  have N1 := Fr.app N0 N1q
  refine ⟨T1, _, X1, e1, N1, fun target kt => ?_⟩
  show Steps p.tables e below (T0.setTop (mkF m 106 #[.val (.int p1), .val (.int p2), .val (.int p3), .val (.int p4), .val (.int p5), .val (.int (1 : Int32)), .val (.int (Int32.ofNat d0)), .val (.int (Int32.ofNat d1)), .val (.int (Int32.ofNat d2)), .val (.ref o1), .val (.ref o2), .unset] [(.ref o3)])) _
  refine XS.astore X0.here hx rfl (hb hby at_106) rfl rfl (l' := #[.val (.int p1), .val (.int p2), .val (.int p3), .val (.int p4), .val (.int p5), .val (.int (1 : Int32)), .val (.int (Int32.ofNat d0)), .val (.int (Int32.ofNat d1)), .val (.int (Int32.ofNat d2)), .val (.ref o1), .val (.ref o2), .val (.ref o3)]) rfl ?_
  show Steps p.tables e below (T0.setTop (mkF m 108 #[.val (.int p1), .val (.int p2), .val (.int p3), .val (.int p4), .val (.int p5), .val (.int (1 : Int32)), .val (.int (Int32.ofNat d0)), .val (.int (Int32.ofNat d1)), .val (.int (Int32.ofNat d2)), .val (.ref o1), .val (.ref o2), .val (.ref o3)] [])) _
  refine XS.aload X0.here hx rfl (hb hby at_108) rfl rfl ?_
  show Steps p.tables e below (T0.setTop (mkF m 110 #[.val (.int p1), .val (.int p2), .val (.int p3), .val (.int p4), .val (.int p5), .val (.int (1 : Int32)), .val (.int (Int32.ofNat d0)), .val (.int (Int32.ofNat d1)), .val (.int (Int32.ofNat d2)), .val (.ref o1), .val (.ref o2), .val (.ref o3)] [(.ref o3)])) _
  refine XS.ifnullNo X0.here hx rfl (hb hby at_110) rfl ?_
  show Steps p.tables e below (T0.setTop (mkF m 113 #[.val (.int p1), .val (.int p2), .val (.int p3), .val (.int p4), .val (.int p5), .val (.int (1 : Int32)), .val (.int (Int32.ofNat d0)), .val (.int (Int32.ofNat d1)), .val (.int (Int32.ofNat d2)), .val (.ref o1), .val (.ref o2), .val (.ref o3)] [])) _
  refine XS.aload X0.here hx rfl (hb hby at_113) rfl rfl ?_
  show Steps p.tables e below (T0.setTop (mkF m 115 #[.val (.int p1), .val (.int p2), .val (.int p3), .val (.int p4), .val (.int p5), .val (.int (1 : Int32)), .val (.int (Int32.ofNat d0)), .val (.int (Int32.ofNat d1)), .val (.int (Int32.ofNat d2)), .val (.ref o1), .val (.ref o2), .val (.ref o3)] [(.ref o3)])) _
  refine X0.arraylength hx (by rw [e0]; exact ArO.1) (State.isArrayOf_alike hZ.alike ArO.2.1) (g := (mkF m 115 #[.val (.int p1), .val (.int p2), .val (.int p3), .val (.int p4), .val (.int p5), .val (.int (1 : Int32)), .val (.int (Int32.ofNat d0)), .val (.int (Int32.ofNat d1)), .val (.int (Int32.ofNat d2)), .val (.ref o1), .val (.ref o2), .val (.ref o3)] [(.ref o3)])) rfl rfl (hb hby at_115) _ ?_
  rw [len_of SO' (by decide)]
  show Steps p.tables e below (T0.setTop (mkF m 116 #[.val (.int p1), .val (.int p2), .val (.int p3), .val (.int p4), .val (.int p5), .val (.int (1 : Int32)), .val (.int (Int32.ofNat d0)), .val (.int (Int32.ofNat d1)), .val (.int (Int32.ofNat d2)), .val (.ref o1), .val (.ref o2), .val (.ref o3)] [(.int (1 : Int32))])) _
  refine XS.iload X0.here hx rfl (hb hby at_116) rfl ?_
  show Steps p.tables e below (T0.setTop (mkF m 118 #[.val (.int p1), .val (.int p2), .val (.int p3), .val (.int p4), .val (.int p5), .val (.int (1 : Int32)), .val (.int (Int32.ofNat d0)), .val (.int (Int32.ofNat d1)), .val (.int (Int32.ofNat d2)), .val (.ref o1), .val (.ref o2), .val (.ref o3)] [(.int (1 : Int32)), (.int (1 : Int32))])) _
  refine XS.icmpNo X0.here hx rfl (hb hby at_118) rfl (teq (rfl : (1 : Int32) = (1 : Int32))).2 ?_
  show Steps p.tables e below (T0.setTop (mkF m 121 #[.val (.int p1), .val (.int p2), .val (.int p3), .val (.int p4), .val (.int p5), .val (.int (1 : Int32)), .val (.int (Int32.ofNat d0)), .val (.int (Int32.ofNat d1)), .val (.int (Int32.ofNat d2)), .val (.ref o1), .val (.ref o2), .val (.ref o3)] [])) _
  refine XS.aload X0.here hx rfl (hb hby at_121) rfl rfl ?_
  show Steps p.tables e below (T0.setTop (mkF m 123 #[.val (.int p1), .val (.int p2), .val (.int p3), .val (.int p4), .val (.int p5), .val (.int (1 : Int32)), .val (.int (Int32.ofNat d0)), .val (.int (Int32.ofNat d1)), .val (.int (Int32.ofNat d2)), .val (.ref o1), .val (.ref o2), .val (.ref o3)] [(.ref o3)])) _
  refine XS.aload X0.here hx rfl (hb hby at_123) rfl rfl ?_
  show Steps p.tables e below (T0.setTop (mkF m 125 #[.val (.int p1), .val (.int p2), .val (.int p3), .val (.int p4), .val (.int p5), .val (.int (1 : Int32)), .val (.int (Int32.ofNat d0)), .val (.int (Int32.ofNat d1)), .val (.int (Int32.ofNat d2)), .val (.ref o1), .val (.ref o2), .val (.ref o3)] [(.ref o1), (.ref o3)])) _
  refine Jvm.RoadKit.acmp (g := (mkF m 125 #[.val (.int p1), .val (.int p2), .val (.int p3), .val (.int p4), .val (.int p5), .val (.int (1 : Int32)), .val (.int (Int32.ofNat d0)), .val (.int (Int32.ofNat d1)), .val (.int (Int32.ofNat d2)), .val (.ref o1), .val (.ref o2), .val (.ref o3)] [(.ref o1), (.ref o3)])) X0 hx rfl rfl rfl (pc0 := 125) (pc' := 128) (same := false) rfl (hb hby at_125) rfl (decide_eq_false fun q => ne1 (Value.ref.inj q)) (by decide) (by decide) ?_
  show Steps p.tables e below (T0.setTop (mkF m 128 #[.val (.int p1), .val (.int p2), .val (.int p3), .val (.int p4), .val (.int p5), .val (.int (1 : Int32)), .val (.int (Int32.ofNat d0)), .val (.int (Int32.ofNat d1)), .val (.int (Int32.ofNat d2)), .val (.ref o1), .val (.ref o2), .val (.ref o3)] [])) _
  refine XS.aload X0.here hx rfl (hb hby at_128) rfl rfl ?_
  show Steps p.tables e below (T0.setTop (mkF m 130 #[.val (.int p1), .val (.int p2), .val (.int p3), .val (.int p4), .val (.int p5), .val (.int (1 : Int32)), .val (.int (Int32.ofNat d0)), .val (.int (Int32.ofNat d1)), .val (.int (Int32.ofNat d2)), .val (.ref o1), .val (.ref o2), .val (.ref o3)] [(.ref o3)])) _
  refine XS.aload X0.here hx rfl (hb hby at_130) rfl rfl ?_
  show Steps p.tables e below (T0.setTop (mkF m 132 #[.val (.int p1), .val (.int p2), .val (.int p3), .val (.int p4), .val (.int p5), .val (.int (1 : Int32)), .val (.int (Int32.ofNat d0)), .val (.int (Int32.ofNat d1)), .val (.int (Int32.ofNat d2)), .val (.ref o1), .val (.ref o2), .val (.ref o3)] [(.ref o2), (.ref o3)])) _
  refine Jvm.RoadKit.acmp (g := (mkF m 132 #[.val (.int p1), .val (.int p2), .val (.int p3), .val (.int p4), .val (.int p5), .val (.int (1 : Int32)), .val (.int (Int32.ofNat d0)), .val (.int (Int32.ofNat d1)), .val (.int (Int32.ofNat d2)), .val (.ref o1), .val (.ref o2), .val (.ref o3)] [(.ref o2), (.ref o3)])) X0 hx rfl rfl rfl (pc0 := 132) (pc' := 137) (same := false) rfl (hb hby at_132) rfl (decide_eq_false fun q => ne2 (Value.ref.inj q)) (by decide) (by decide) ?_
  show Steps p.tables e below (T0.setTop (mkF m 137 #[.val (.int p1), .val (.int p2), .val (.int p3), .val (.int p4), .val (.int p5), .val (.int (1 : Int32)), .val (.int (Int32.ofNat d0)), .val (.int (Int32.ofNat d1)), .val (.int (Int32.ofNat d2)), .val (.ref o1), .val (.ref o2), .val (.ref o3)] [])) _
  refine XS.iload X0.here hx rfl (hb hby at_137) rfl ?_
  show Steps p.tables e below (T0.setTop (mkF m 139 #[.val (.int p1), .val (.int p2), .val (.int p3), .val (.int p4), .val (.int p5), .val (.int (1 : Int32)), .val (.int (Int32.ofNat d0)), .val (.int (Int32.ofNat d1)), .val (.int (Int32.ofNat d2)), .val (.ref o1), .val (.ref o2), .val (.ref o3)] [(.int (1 : Int32))])) _
  refine XS.ifNo X0.here hx rfl (hb hby at_139) rfl ((if0 _ _).trans (tlt (by decide)).2.2.2) ?_
  show Steps p.tables e below (T0.setTop (mkF m 142 #[.val (.int p1), .val (.int p2), .val (.int p3), .val (.int p4), .val (.int p5), .val (.int (1 : Int32)), .val (.int (Int32.ofNat d0)), .val (.int (Int32.ofNat d1)), .val (.int (Int32.ofNat d2)), .val (.ref o1), .val (.ref o2), .val (.ref o3)] [])) _
  refine XS.aload X0.here hx rfl (hb hby at_142) rfl rfl ?_
  show Steps p.tables e below (T0.setTop (mkF m 144 #[.val (.int p1), .val (.int p2), .val (.int p3), .val (.int p4), .val (.int p5), .val (.int (1 : Int32)), .val (.int (Int32.ofNat d0)), .val (.int (Int32.ofNat d1)), .val (.int (Int32.ofNat d2)), .val (.ref o1), .val (.ref o2), .val (.ref o3)] [(.ref o3)])) _
  refine XS.iconst X0.here hx rfl (hb hby at_144) ?_
  show Steps p.tables e below (T0.setTop (mkF m 145 #[.val (.int p1), .val (.int p2), .val (.int p3), .val (.int p4), .val (.int p5), .val (.int (1 : Int32)), .val (.int (Int32.ofNat d0)), .val (.int (Int32.ofNat d1)), .val (.int (Int32.ofNat d2)), .val (.ref o1), .val (.ref o2), .val (.ref o3)] [(.int (0 : Int32)), (.ref o3)])) _
  refine X0.iaload hx (j := (0 : Int32)) (v := (.int (own_N p1 p2 p3 d0))) (by rw [e0]; exact ArO.1) (State.isArrayOf_alike hZ.alike ArO.2.1) ArO.2.2 (by rw [SO]; decide) (show cO.slots[(0 : Int32).toNatClampNeg]? = _ from HO 0 (by decide)) (g := (mkF m 145 #[.val (.int p1), .val (.int p2), .val (.int p3), .val (.int p4), .val (.int p5), .val (.int (1 : Int32)), .val (.int (Int32.ofNat d0)), .val (.int (Int32.ofNat d1)), .val (.int (Int32.ofNat d2)), .val (.ref o1), .val (.ref o2), .val (.ref o3)] [(.int (0 : Int32)), (.ref o3)])) rfl rfl (hb hby at_145) _ ?_
  show Steps p.tables e below (T0.setTop (mkF m 146 #[.val (.int p1), .val (.int p2), .val (.int p3), .val (.int p4), .val (.int p5), .val (.int (1 : Int32)), .val (.int (Int32.ofNat d0)), .val (.int (Int32.ofNat d1)), .val (.int (Int32.ofNat d2)), .val (.ref o1), .val (.ref o2), .val (.ref o3)] [(.int (own_N p1 p2 p3 d0))])) _
  refine XS.iloadN X0.here hx rfl (hb hby at_146) rfl ?_
  show Steps p.tables e below (T0.setTop (mkF m 147 #[.val (.int p1), .val (.int p2), .val (.int p3), .val (.int p4), .val (.int p5), .val (.int (1 : Int32)), .val (.int (Int32.ofNat d0)), .val (.int (Int32.ofNat d1)), .val (.int (Int32.ofNat d2)), .val (.ref o1), .val (.ref o2), .val (.ref o3)] [(.int p1), (.int (own_N p1 p2 p3 d0))])) _
  refine XS.iloadN X0.here hx rfl (hb hby at_147) rfl ?_
  show Steps p.tables e below (T0.setTop (mkF m 148 #[.val (.int p1), .val (.int p2), .val (.int p3), .val (.int p4), .val (.int p5), .val (.int (1 : Int32)), .val (.int (Int32.ofNat d0)), .val (.int (Int32.ofNat d1)), .val (.int (Int32.ofNat d2)), .val (.ref o1), .val (.ref o2), .val (.ref o3)] [(.int p2), (.int p1), (.int (own_N p1 p2 p3 d0))])) _
  refine XS.iloadN X0.here hx rfl (hb hby at_148) rfl ?_
  show Steps p.tables e below (T0.setTop (mkF m 149 #[.val (.int p1), .val (.int p2), .val (.int p3), .val (.int p4), .val (.int p5), .val (.int (1 : Int32)), .val (.int (Int32.ofNat d0)), .val (.int (Int32.ofNat d1)), .val (.int (Int32.ofNat d2)), .val (.ref o1), .val (.ref o2), .val (.ref o3)] [(.int p3), (.int p2), (.int p1), (.int (own_N p1 p2 p3 d0))])) _
  refine XS.iload X0.here hx rfl (hb hby at_149) rfl ?_
  show Steps p.tables e below (T0.setTop (mkF m 151 #[.val (.int p1), .val (.int p2), .val (.int p3), .val (.int p4), .val (.int p5), .val (.int (1 : Int32)), .val (.int (Int32.ofNat d0)), .val (.int (Int32.ofNat d1)), .val (.int (Int32.ofNat d2)), .val (.ref o1), .val (.ref o2), .val (.ref o3)] [(.int (Int32.ofNat d0)), (.int p3), (.int p2), (.int p1), (.int (own_N p1 p2 p3 d0))])) _
  refine st1 _ ?_
  show Steps p.tables e below (T1.setTop (mkF m 154 #[.val (.int p1), .val (.int p2), .val (.int p3), .val (.int p4), .val (.int p5), .val (.int (1 : Int32)), .val (.int (Int32.ofNat d0)), .val (.int (Int32.ofNat d1)), .val (.int (Int32.ofNat d2)), .val (.ref o1), .val (.ref o2), .val (.ref o3)] [(.int (own_pick p1 p2 p3 (Int32.ofNat d0))), (.int (own_N p1 p2 p3 d0))])) _
  refine XS.icmpYes X1.here hx rfl (pc0 := 154) (pc' := 159) rfl (hb hby at_154) rfl (teq (own_pk p1 p2 p3 hd0)).1 (by decide) (by decide) ?_
  show Steps p.tables e below (T1.setTop (mkF m 159 #[.val (.int p1), .val (.int p2), .val (.int p3), .val (.int p4), .val (.int p5), .val (.int (1 : Int32)), .val (.int (Int32.ofNat d0)), .val (.int (Int32.ofNat d1)), .val (.int (Int32.ofNat d2)), .val (.ref o1), .val (.ref o2), .val (.ref o3)] [])) _
  refine XS.iload X1.here hx rfl (hb hby at_159) rfl ?_
  show Steps p.tables e below (T1.setTop (mkF m 161 #[.val (.int p1), .val (.int p2), .val (.int p3), .val (.int p4), .val (.int p5), .val (.int (1 : Int32)), .val (.int (Int32.ofNat d0)), .val (.int (Int32.ofNat d1)), .val (.int (Int32.ofNat d2)), .val (.ref o1), .val (.ref o2), .val (.ref o3)] [(.int (1 : Int32))])) _
  refine XS.iconst X1.here hx rfl (hb hby at_161) ?_
  show Steps p.tables e below (T1.setTop (mkF m 162 #[.val (.int p1), .val (.int p2), .val (.int p3), .val (.int p4), .val (.int p5), .val (.int (1 : Int32)), .val (.int (Int32.ofNat d0)), .val (.int (Int32.ofNat d1)), .val (.int (Int32.ofNat d2)), .val (.ref o1), .val (.ref o2), .val (.ref o3)] [(.int (1 : Int32)), (.int (1 : Int32))])) _
  refine XS.icmpYes X1.here hx rfl (pc0 := 162) (pc' := 182) rfl (hb hby at_162) rfl (flt (by decide)).2.2.2 (by decide) (by decide) ?_
  show Steps p.tables e below (T1.setTop (mkF m 182 #[.val (.int p1), .val (.int p2), .val (.int p3), .val (.int p4), .val (.int p5), .val (.int (1 : Int32)), .val (.int (Int32.ofNat d0)), .val (.int (Int32.ofNat d1)), .val (.int (Int32.ofNat d2)), .val (.ref o1), .val (.ref o2), .val (.ref o3)] [])) _
  refine XS.iload X1.here hx rfl (hb hby at_182) rfl ?_
  show Steps p.tables e below (T1.setTop (mkF m 184 #[.val (.int p1), .val (.int p2), .val (.int p3), .val (.int p4), .val (.int p5), .val (.int (1 : Int32)), .val (.int (Int32.ofNat d0)), .val (.int (Int32.ofNat d1)), .val (.int (Int32.ofNat d2)), .val (.ref o1), .val (.ref o2), .val (.ref o3)] [(.int (1 : Int32))])) _
  refine XS.iconst X1.here hx rfl (hb hby at_184) ?_
  show Steps p.tables e below (T1.setTop (mkF m 185 #[.val (.int p1), .val (.int p2), .val (.int p3), .val (.int p4), .val (.int p5), .val (.int (1 : Int32)), .val (.int (Int32.ofNat d0)), .val (.int (Int32.ofNat d1)), .val (.int (Int32.ofNat d2)), .val (.ref o1), .val (.ref o2), .val (.ref o3)] [(.int (2 : Int32)), (.int (1 : Int32))])) _
  refine XS.icmpYes X1.here hx rfl (pc0 := 185) (pc' := 205) rfl (hb hby at_185) rfl (flt (by decide)).2.2.2 (by decide) (by decide) ?_
  show Steps p.tables e below (T1.setTop (mkF m 205 #[.val (.int p1), .val (.int p2), .val (.int p3), .val (.int p4), .val (.int p5), .val (.int (1 : Int32)), .val (.int (Int32.ofNat d0)), .val (.int (Int32.ofNat d1)), .val (.int (Int32.ofNat d2)), .val (.ref o1), .val (.ref o2), .val (.ref o3)] [])) _
  refine XS.aload X1.here hx rfl (hb hby at_205) rfl rfl ?_
  show Steps p.tables e below (T1.setTop (mkF m 207 #[.val (.int p1), .val (.int p2), .val (.int p3), .val (.int p4), .val (.int p5), .val (.int (1 : Int32)), .val (.int (Int32.ofNat d0)), .val (.int (Int32.ofNat d1)), .val (.int (Int32.ofNat d2)), .val (.ref o1), .val (.ref o2), .val (.ref o3)] [(.ref o1)])) _
  refine XS.iconst X1.here hx rfl (hb hby at_207) ?_
  show Steps p.tables e below (T1.setTop (mkF m 208 #[.val (.int p1), .val (.int p2), .val (.int p3), .val (.int p4), .val (.int p5), .val (.int (1 : Int32)), .val (.int (Int32.ofNat d0)), .val (.int (Int32.ofNat d1)), .val (.int (Int32.ofNat d2)), .val (.ref o1), .val (.ref o2), .val (.ref o3)] [(.int (0 : Int32)), (.ref o1)])) _
  refine X1.iaload hx (j := (0 : Int32)) (v := (.int p1)) (by rw [e1]; exact ArN.1) (State.isArrayOf_alike hZ.alike ArN.2.1) ArN.2.2 (by rw [SN]; decide) (show cN.slots[(0 : Int32).toNatClampNeg]? = _ from HN 0 (by decide)) (g := (mkF m 208 #[.val (.int p1), .val (.int p2), .val (.int p3), .val (.int p4), .val (.int p5), .val (.int (1 : Int32)), .val (.int (Int32.ofNat d0)), .val (.int (Int32.ofNat d1)), .val (.int (Int32.ofNat d2)), .val (.ref o1), .val (.ref o2), .val (.ref o3)] [(.int (0 : Int32)), (.ref o1)])) rfl rfl (hb hby at_208) _ ?_
  show Steps p.tables e below (T1.setTop (mkF m 209 #[.val (.int p1), .val (.int p2), .val (.int p3), .val (.int p4), .val (.int p5), .val (.int (1 : Int32)), .val (.int (Int32.ofNat d0)), .val (.int (Int32.ofNat d1)), .val (.int (Int32.ofNat d2)), .val (.ref o1), .val (.ref o2), .val (.ref o3)] [(.int p1)])) _
  refine XS.iloadN X1.here hx rfl (hb hby at_209) rfl ?_
  show Steps p.tables e below (T1.setTop (mkF m 210 #[.val (.int p1), .val (.int p2), .val (.int p3), .val (.int p4), .val (.int p5), .val (.int (1 : Int32)), .val (.int (Int32.ofNat d0)), .val (.int (Int32.ofNat d1)), .val (.int (Int32.ofNat d2)), .val (.ref o1), .val (.ref o2), .val (.ref o3)] [(.int p1), (.int p1)])) _
  refine XS.icmpNo X1.here hx rfl (hb hby at_210) rfl (teq (rfl : p1 = p1)).2 ?_
  show Steps p.tables e below (T1.setTop (mkF m 213 #[.val (.int p1), .val (.int p2), .val (.int p3), .val (.int p4), .val (.int p5), .val (.int (1 : Int32)), .val (.int (Int32.ofNat d0)), .val (.int (Int32.ofNat d1)), .val (.int (Int32.ofNat d2)), .val (.ref o1), .val (.ref o2), .val (.ref o3)] [])) _
  refine XS.aload X1.here hx rfl (hb hby at_213) rfl rfl ?_
  show Steps p.tables e below (T1.setTop (mkF m 215 #[.val (.int p1), .val (.int p2), .val (.int p3), .val (.int p4), .val (.int p5), .val (.int (1 : Int32)), .val (.int (Int32.ofNat d0)), .val (.int (Int32.ofNat d1)), .val (.int (Int32.ofNat d2)), .val (.ref o1), .val (.ref o2), .val (.ref o3)] [(.ref o1)])) _
  refine XS.iconst X1.here hx rfl (hb hby at_215) ?_
  show Steps p.tables e below (T1.setTop (mkF m 216 #[.val (.int p1), .val (.int p2), .val (.int p3), .val (.int p4), .val (.int p5), .val (.int (1 : Int32)), .val (.int (Int32.ofNat d0)), .val (.int (Int32.ofNat d1)), .val (.int (Int32.ofNat d2)), .val (.ref o1), .val (.ref o2), .val (.ref o3)] [(.int (1 : Int32)), (.ref o1)])) _
  refine X1.iaload hx (j := (1 : Int32)) (v := (.int p2)) (by rw [e1]; exact ArN.1) (State.isArrayOf_alike hZ.alike ArN.2.1) ArN.2.2 (by rw [SN]; decide) (show cN.slots[(1 : Int32).toNatClampNeg]? = _ from HN 1 (by decide)) (g := (mkF m 216 #[.val (.int p1), .val (.int p2), .val (.int p3), .val (.int p4), .val (.int p5), .val (.int (1 : Int32)), .val (.int (Int32.ofNat d0)), .val (.int (Int32.ofNat d1)), .val (.int (Int32.ofNat d2)), .val (.ref o1), .val (.ref o2), .val (.ref o3)] [(.int (1 : Int32)), (.ref o1)])) rfl rfl (hb hby at_216) _ ?_
  show Steps p.tables e below (T1.setTop (mkF m 217 #[.val (.int p1), .val (.int p2), .val (.int p3), .val (.int p4), .val (.int p5), .val (.int (1 : Int32)), .val (.int (Int32.ofNat d0)), .val (.int (Int32.ofNat d1)), .val (.int (Int32.ofNat d2)), .val (.ref o1), .val (.ref o2), .val (.ref o3)] [(.int p2)])) _
  refine XS.iloadN X1.here hx rfl (hb hby at_217) rfl ?_
  show Steps p.tables e below (T1.setTop (mkF m 218 #[.val (.int p1), .val (.int p2), .val (.int p3), .val (.int p4), .val (.int p5), .val (.int (1 : Int32)), .val (.int (Int32.ofNat d0)), .val (.int (Int32.ofNat d1)), .val (.int (Int32.ofNat d2)), .val (.ref o1), .val (.ref o2), .val (.ref o3)] [(.int p2), (.int p2)])) _
  refine XS.icmpNo X1.here hx rfl (hb hby at_218) rfl (teq (rfl : p2 = p2)).2 ?_
  show Steps p.tables e below (T1.setTop (mkF m 221 #[.val (.int p1), .val (.int p2), .val (.int p3), .val (.int p4), .val (.int p5), .val (.int (1 : Int32)), .val (.int (Int32.ofNat d0)), .val (.int (Int32.ofNat d1)), .val (.int (Int32.ofNat d2)), .val (.ref o1), .val (.ref o2), .val (.ref o3)] [])) _
  refine XS.aload X1.here hx rfl (hb hby at_221) rfl rfl ?_
  show Steps p.tables e below (T1.setTop (mkF m 223 #[.val (.int p1), .val (.int p2), .val (.int p3), .val (.int p4), .val (.int p5), .val (.int (1 : Int32)), .val (.int (Int32.ofNat d0)), .val (.int (Int32.ofNat d1)), .val (.int (Int32.ofNat d2)), .val (.ref o1), .val (.ref o2), .val (.ref o3)] [(.ref o1)])) _
  refine XS.iconst X1.here hx rfl (hb hby at_223) ?_
  show Steps p.tables e below (T1.setTop (mkF m 224 #[.val (.int p1), .val (.int p2), .val (.int p3), .val (.int p4), .val (.int p5), .val (.int (1 : Int32)), .val (.int (Int32.ofNat d0)), .val (.int (Int32.ofNat d1)), .val (.int (Int32.ofNat d2)), .val (.ref o1), .val (.ref o2), .val (.ref o3)] [(.int (2 : Int32)), (.ref o1)])) _
  refine X1.iaload hx (j := (2 : Int32)) (v := (.int p3)) (by rw [e1]; exact ArN.1) (State.isArrayOf_alike hZ.alike ArN.2.1) ArN.2.2 (by rw [SN]; decide) (show cN.slots[(2 : Int32).toNatClampNeg]? = _ from HN 2 (by decide)) (g := (mkF m 224 #[.val (.int p1), .val (.int p2), .val (.int p3), .val (.int p4), .val (.int p5), .val (.int (1 : Int32)), .val (.int (Int32.ofNat d0)), .val (.int (Int32.ofNat d1)), .val (.int (Int32.ofNat d2)), .val (.ref o1), .val (.ref o2), .val (.ref o3)] [(.int (2 : Int32)), (.ref o1)])) rfl rfl (hb hby at_224) _ ?_
  show Steps p.tables e below (T1.setTop (mkF m 225 #[.val (.int p1), .val (.int p2), .val (.int p3), .val (.int p4), .val (.int p5), .val (.int (1 : Int32)), .val (.int (Int32.ofNat d0)), .val (.int (Int32.ofNat d1)), .val (.int (Int32.ofNat d2)), .val (.ref o1), .val (.ref o2), .val (.ref o3)] [(.int p3)])) _
  refine XS.iloadN X1.here hx rfl (hb hby at_225) rfl ?_
  show Steps p.tables e below (T1.setTop (mkF m 226 #[.val (.int p1), .val (.int p2), .val (.int p3), .val (.int p4), .val (.int p5), .val (.int (1 : Int32)), .val (.int (Int32.ofNat d0)), .val (.int (Int32.ofNat d1)), .val (.int (Int32.ofNat d2)), .val (.ref o1), .val (.ref o2), .val (.ref o3)] [(.int p3), (.int p3)])) _
  refine XS.icmpYes X1.here hx rfl (pc0 := 226) (pc' := 231) rfl (hb hby at_226) rfl (teq (rfl : p3 = p3)).1 (by decide) (by decide) ?_
  show Steps p.tables e below (T1.setTop (mkF m 231 #[.val (.int p1), .val (.int p2), .val (.int p3), .val (.int p4), .val (.int p5), .val (.int (1 : Int32)), .val (.int (Int32.ofNat d0)), .val (.int (Int32.ofNat d1)), .val (.int (Int32.ofNat d2)), .val (.ref o1), .val (.ref o2), .val (.ref o3)] [])) _
  refine XS.iload X1.here hx rfl (hb hby at_231) rfl ?_
  show Steps p.tables e below (T1.setTop (mkF m 233 #[.val (.int p1), .val (.int p2), .val (.int p3), .val (.int p4), .val (.int p5), .val (.int (1 : Int32)), .val (.int (Int32.ofNat d0)), .val (.int (Int32.ofNat d1)), .val (.int (Int32.ofNat d2)), .val (.ref o1), .val (.ref o2), .val (.ref o3)] [(.int (1 : Int32))])) _
  refine XS.ifNo X1.here hx rfl (hb hby at_233) rfl ((if0 _ _).trans (tlt (by decide)).2.2.2) ?_
  show Steps p.tables e below (T1.setTop (mkF m 236 #[.val (.int p1), .val (.int p2), .val (.int p3), .val (.int p4), .val (.int p5), .val (.int (1 : Int32)), .val (.int (Int32.ofNat d0)), .val (.int (Int32.ofNat d1)), .val (.int (Int32.ofNat d2)), .val (.ref o1), .val (.ref o2), .val (.ref o3)] [])) _
  refine XS.aload X1.here hx rfl (hb hby at_236) rfl rfl ?_
  show Steps p.tables e below (T1.setTop (mkF m 238 #[.val (.int p1), .val (.int p2), .val (.int p3), .val (.int p4), .val (.int p5), .val (.int (1 : Int32)), .val (.int (Int32.ofNat d0)), .val (.int (Int32.ofNat d1)), .val (.int (Int32.ofNat d2)), .val (.ref o1), .val (.ref o2), .val (.ref o3)] [(.ref o2)])) _
  refine XS.iconst X1.here hx rfl (hb hby at_238) ?_
  show Steps p.tables e below (T1.setTop (mkF m 239 #[.val (.int p1), .val (.int p2), .val (.int p3), .val (.int p4), .val (.int p5), .val (.int (1 : Int32)), .val (.int (Int32.ofNat d0)), .val (.int (Int32.ofNat d1)), .val (.int (Int32.ofNat d2)), .val (.ref o1), .val (.ref o2), .val (.ref o3)] [(.int (0 : Int32)), (.ref o2)])) _
  refine X1.iaload hx (j := (0 : Int32)) (v := (.int (Int32.ofNat d0))) (by rw [e1]; exact ArI.1) (State.isArrayOf_alike hZ.alike ArI.2.1) ArI.2.2 (by rw [SI]; decide) (show cI.slots[(0 : Int32).toNatClampNeg]? = _ from HI 0 (by decide)) (g := (mkF m 239 #[.val (.int p1), .val (.int p2), .val (.int p3), .val (.int p4), .val (.int p5), .val (.int (1 : Int32)), .val (.int (Int32.ofNat d0)), .val (.int (Int32.ofNat d1)), .val (.int (Int32.ofNat d2)), .val (.ref o1), .val (.ref o2), .val (.ref o3)] [(.int (0 : Int32)), (.ref o2)])) rfl rfl (hb hby at_239) _ ?_
  show Steps p.tables e below (T1.setTop (mkF m 240 #[.val (.int p1), .val (.int p2), .val (.int p3), .val (.int p4), .val (.int p5), .val (.int (1 : Int32)), .val (.int (Int32.ofNat d0)), .val (.int (Int32.ofNat d1)), .val (.int (Int32.ofNat d2)), .val (.ref o1), .val (.ref o2), .val (.ref o3)] [(.int (Int32.ofNat d0))])) _
  refine XS.iload X1.here hx rfl (hb hby at_240) rfl ?_
  show Steps p.tables e below (T1.setTop (mkF m 242 #[.val (.int p1), .val (.int p2), .val (.int p3), .val (.int p4), .val (.int p5), .val (.int (1 : Int32)), .val (.int (Int32.ofNat d0)), .val (.int (Int32.ofNat d1)), .val (.int (Int32.ofNat d2)), .val (.ref o1), .val (.ref o2), .val (.ref o3)] [(.int (Int32.ofNat d0)), (.int (Int32.ofNat d0))])) _
  refine XS.icmpYes X1.here hx rfl (pc0 := 242) (pc' := 247) rfl (hb hby at_242) rfl (teq (rfl : Int32.ofNat d0 = Int32.ofNat d0)).1 (by decide) (by decide) ?_
  show Steps p.tables e below (T1.setTop (mkF m 247 #[.val (.int p1), .val (.int p2), .val (.int p3), .val (.int p4), .val (.int p5), .val (.int (1 : Int32)), .val (.int (Int32.ofNat d0)), .val (.int (Int32.ofNat d1)), .val (.int (Int32.ofNat d2)), .val (.ref o1), .val (.ref o2), .val (.ref o3)] [])) _
  refine XS.iload X1.here hx rfl (hb hby at_247) rfl ?_
  show Steps p.tables e below (T1.setTop (mkF m 249 #[.val (.int p1), .val (.int p2), .val (.int p3), .val (.int p4), .val (.int p5), .val (.int (1 : Int32)), .val (.int (Int32.ofNat d0)), .val (.int (Int32.ofNat d1)), .val (.int (Int32.ofNat d2)), .val (.ref o1), .val (.ref o2), .val (.ref o3)] [(.int (1 : Int32))])) _
  refine XS.iconst X1.here hx rfl (hb hby at_249) ?_
  show Steps p.tables e below (T1.setTop (mkF m 250 #[.val (.int p1), .val (.int p2), .val (.int p3), .val (.int p4), .val (.int p5), .val (.int (1 : Int32)), .val (.int (Int32.ofNat d0)), .val (.int (Int32.ofNat d1)), .val (.int (Int32.ofNat d2)), .val (.ref o1), .val (.ref o2), .val (.ref o3)] [(.int (1 : Int32)), (.int (1 : Int32))])) _
  refine XS.icmpYes X1.here hx rfl (pc0 := 250) (pc' := 264) rfl (hb hby at_250) rfl (flt (by decide)).2.2.2 (by decide) (by decide) ?_
  show Steps p.tables e below (T1.setTop (mkF m 264 #[.val (.int p1), .val (.int p2), .val (.int p3), .val (.int p4), .val (.int p5), .val (.int (1 : Int32)), .val (.int (Int32.ofNat d0)), .val (.int (Int32.ofNat d1)), .val (.int (Int32.ofNat d2)), .val (.ref o1), .val (.ref o2), .val (.ref o3)] [])) _
  refine XS.iload X1.here hx rfl (hb hby at_264) rfl ?_
  show Steps p.tables e below (T1.setTop (mkF m 266 #[.val (.int p1), .val (.int p2), .val (.int p3), .val (.int p4), .val (.int p5), .val (.int (1 : Int32)), .val (.int (Int32.ofNat d0)), .val (.int (Int32.ofNat d1)), .val (.int (Int32.ofNat d2)), .val (.ref o1), .val (.ref o2), .val (.ref o3)] [(.int (1 : Int32))])) _
  refine XS.iconst X1.here hx rfl (hb hby at_266) ?_
  show Steps p.tables e below (T1.setTop (mkF m 267 #[.val (.int p1), .val (.int p2), .val (.int p3), .val (.int p4), .val (.int p5), .val (.int (1 : Int32)), .val (.int (Int32.ofNat d0)), .val (.int (Int32.ofNat d1)), .val (.int (Int32.ofNat d2)), .val (.ref o1), .val (.ref o2), .val (.ref o3)] [(.int (2 : Int32)), (.int (1 : Int32))])) _
  refine XS.icmpYes X1.here hx rfl (pc0 := 267) (pc' := 281) rfl (hb hby at_267) rfl (flt (by decide)).2.2.2 (by decide) (by decide) ?_
  show Steps p.tables e below (T1.setTop (mkF m 281 #[.val (.int p1), .val (.int p2), .val (.int p3), .val (.int p4), .val (.int p5), .val (.int (1 : Int32)), .val (.int (Int32.ofNat d0)), .val (.int (Int32.ofNat d1)), .val (.int (Int32.ofNat d2)), .val (.ref o1), .val (.ref o2), .val (.ref o3)] [])) _
  refine XS.iconst X1.here hx rfl (hb hby at_281) ?_
  exact kt
set_option maxRecDepth 65536 in
set_option maxHeartbeats 40000000 in
theorem tail_2 {p : Program} {l : Launch} {e : Env} {s : State} {m : MethodId} {args : Array Value} {below : List Frame} {meth : Method} {c : Code} {T0 : State} {locs : List Loc} {Z : State} {a0 : Array Value} {h0 : Heap} {n0 : Nat} (p1 p2 p3 p4 p5 : Int32) (d0 d1 d2 : Nat) (o1 o2 o3 : Addr)
    (X0 : Stand p l e room_1 s m args below meth c T0 locs 3 9) (hx : p.tables.exec = Jvm.exec) (hZ : Z.Warmed39 s.vm) (hw : ∀ d ∈ tables_1, d.before a0 Z = true) (hby : c.code = code) (hown : s.vm.findClass "com/example/syngraft/syngraft/core/DiffTreeNumbersOfPinLaw" = some m.cls) (e0 : T0.heap = h0) (hml : c.maxLocals = 12) (Z0 : n0 ≤ h0.size) (N0 : Fr n0 locs) (hd0 : d0 < 3) (hd1 : d1 < 3) (hd2 : d2 < 3) (ne1 : o3 ≠ o1) (ne2 : o3 ≠ o2) (V1 : AF Z h0 o1 .int 3 (fun j => .int (own_N p1 p2 p3 j))) (V2 : AF Z h0 o2 .int 2 (fun j => .int (Int32.ofNat (own_d d0 d1 d2 j)))) (V3 : AF Z h0 o3 .int 2 (fun j => .int (own_N p1 p2 p3 (own_d d0 d1 d2 j)))) :
    ∃ (T' : State) (locs' : List Loc), Stand p l e room_1 s m args below meth c T' locs' 3 9 ∧ T'.heap = h0 ∧ Fr n0 locs' ∧
      ∀ target, Steps p.tables e below (T'.setTop (mkF m 282 #[.val (.int p1), .val (.int p2), .val (.int p3), .val (.int p4), .val (.int p5), .val (.int (2 : Int32)), .val (.int (Int32.ofNat d0)), .val (.int (Int32.ofNat d1)), .val (.int (Int32.ofNat d2)), .val (.ref o1), .val (.ref o2), .val (.ref o3)] [(.int (1 : Int32))])) target → Steps p.tables e below (T0.setTop (mkF m 106 #[.val (.int p1), .val (.int p2), .val (.int p3), .val (.int p4), .val (.int p5), .val (.int (2 : Int32)), .val (.int (Int32.ofNat d0)), .val (.int (Int32.ofNat d1)), .val (.int (Int32.ofNat d2)), .val (.ref o1), .val (.ref o2), .unset] [(.ref o3)])) target := by
  obtain ⟨cN, ArN, SN, HN⟩ := V1
  obtain ⟨cI, ArI, SI, HI⟩ := V2
  obtain ⟨cO, ArO, SO, HO⟩ := V3
  have SO' : cO.slots.size = (2 : Int32).toNatClampNeg := SO
  obtain ⟨_, _, ⟨T1, L1, k1, n1⟩, -, X1, ⟨Lc1, hQ1, l1, y1, z1⟩, st1⟩ := Jvm.LawKit.callS X0 hx (y := (⟨"com/example/syngraft/syngraft/core/DiffTreeNumbersOfPinLaw", "pick", "(IIII)I"⟩ : MethodName)) hown (mvT hZ (hw _ (List.mem_of_getElem? (i := 5) rfl))) (mvT hZ (hw _ (List.mem_of_getElem? (i := 6) rfl))) (mvT hZ (hw _ (List.mem_of_getElem? (i := 7) rfl))) (mvT hZ (hw _ (List.mem_of_getElem? (i := 8) rfl))) (by decide) (backOf (W := 1) (rm2 l Z a0 hw [] p1 p2 p3 (Int32.ofNat d0) h0 n0 Z0) hZ (hw _ (List.mem_of_getElem? (i := 8) rfl)) (hw _ (List.mem_of_getElem? (i := 7) rfl)) (by decide) (by decide)) (g := (mkF m 151 #[.val (.int p1), .val (.int p2), .val (.int p3), .val (.int p4), .val (.int p5), .val (.int (2 : Int32)), .val (.int (Int32.ofNat d0)), .val (.int (Int32.ofNat d1)), .val (.int (Int32.ofNat d2)), .val (.ref o1), .val (.ref o2), .val (.ref o3)] [(.int (Int32.ofNat d0)), (.int p3), (.int p2), (.int p1), (.int (own_N p1 p2 p3 d0))])) rfl (by rw [hml]; rfl) (argsL := [(.int p1), (.int p2), (.int p3), (.int (Int32.ofNat d0))]) (rest := [(.int (own_N p1 p2 p3 d0))]) (lenOf pd_0_pick rfl) rfl (by show 2 * 0 + _ ≤ _; exact Nat.le_of_eq rfl) (hb hby at_151) (fun _ _ => ⟨rfl, e0, (by decide : 3 + 0 ≤ _), (by decide : 9 + 0 ≤ _)⟩)
  dsimp only [Pt.U, Pt.locs, Pt.cells, Pt.slots] at X1 l1 y1 z1 st1 hQ1
  subst l1 y1 z1
  obtain ⟨rfl, N1q, e1⟩ := hQ1
  have N1 := Fr.app N0 N1q
  obtain ⟨_, _, ⟨T2, L2, k2, n2⟩, -, X2, ⟨Lc2, hQ2, l2, y2, z2⟩, st2⟩ := Jvm.LawKit.callS X1 hx (y := (⟨"com/example/syngraft/syngraft/core/DiffTreeNumbersOfPinLaw", "pick", "(IIII)I"⟩ : MethodName)) hown (mvT hZ (hw _ (List.mem_of_getElem? (i := 5) rfl))) (mvT hZ (hw _ (List.mem_of_getElem? (i := 6) rfl))) (mvT hZ (hw _ (List.mem_of_getElem? (i := 7) rfl))) (mvT hZ (hw _ (List.mem_of_getElem? (i := 8) rfl))) (by decide) (backOf (W := 1) (rm2 l Z a0 hw [] p1 p2 p3 (Int32.ofNat d1) h0 n0 Z0) hZ (hw _ (List.mem_of_getElem? (i := 8) rfl)) (hw _ (List.mem_of_getElem? (i := 7) rfl)) (by decide) (by decide)) (g := (mkF m 174 #[.val (.int p1), .val (.int p2), .val (.int p3), .val (.int p4), .val (.int p5), .val (.int (2 : Int32)), .val (.int (Int32.ofNat d0)), .val (.int (Int32.ofNat d1)), .val (.int (Int32.ofNat d2)), .val (.ref o1), .val (.ref o2), .val (.ref o3)] [(.int (Int32.ofNat d1)), (.int p3), (.int p2), (.int p1), (.int (own_N p1 p2 p3 d1))])) rfl (by rw [hml]; rfl) (argsL := [(.int p1), (.int p2), (.int p3), (.int (Int32.ofNat d1))]) (rest := [(.int (own_N p1 p2 p3 d1))]) (lenOf pd_0_pick rfl) rfl (by show 2 * 0 + _ ≤ _; exact Nat.le_of_eq rfl) (hb hby at_174) (fun _ _ => ⟨rfl, e1, (by decide : 3 + 0 ≤ _), (by decide : 9 + 0 ≤ _)⟩)
  dsimp only [Pt.U, Pt.locs, Pt.cells, Pt.slots] at X2 l2 y2 z2 st2 hQ2
  subst l2 y2 z2
  obtain ⟨rfl, N2q, e2⟩ := hQ2
  have N2 := Fr.app N1 N2q
  refine ⟨T2, _, X2, e2, N2, fun target kt => ?_⟩
  show Steps p.tables e below (T0.setTop (mkF m 106 #[.val (.int p1), .val (.int p2), .val (.int p3), .val (.int p4), .val (.int p5), .val (.int (2 : Int32)), .val (.int (Int32.ofNat d0)), .val (.int (Int32.ofNat d1)), .val (.int (Int32.ofNat d2)), .val (.ref o1), .val (.ref o2), .unset] [(.ref o3)])) _
  refine XS.astore X0.here hx rfl (hb hby at_106) rfl rfl (l' := #[.val (.int p1), .val (.int p2), .val (.int p3), .val (.int p4), .val (.int p5), .val (.int (2 : Int32)), .val (.int (Int32.ofNat d0)), .val (.int (Int32.ofNat d1)), .val (.int (Int32.ofNat d2)), .val (.ref o1), .val (.ref o2), .val (.ref o3)]) rfl ?_
  show Steps p.tables e below (T0.setTop (mkF m 108 #[.val (.int p1), .val (.int p2), .val (.int p3), .val (.int p4), .val (.int p5), .val (.int (2 : Int32)), .val (.int (Int32.ofNat d0)), .val (.int (Int32.ofNat d1)), .val (.int (Int32.ofNat d2)), .val (.ref o1), .val (.ref o2), .val (.ref o3)] [])) _
  refine XS.aload X0.here hx rfl (hb hby at_108) rfl rfl ?_
  show Steps p.tables e below (T0.setTop (mkF m 110 #[.val (.int p1), .val (.int p2), .val (.int p3), .val (.int p4), .val (.int p5), .val (.int (2 : Int32)), .val (.int (Int32.ofNat d0)), .val (.int (Int32.ofNat d1)), .val (.int (Int32.ofNat d2)), .val (.ref o1), .val (.ref o2), .val (.ref o3)] [(.ref o3)])) _
  refine XS.ifnullNo X0.here hx rfl (hb hby at_110) rfl ?_
  show Steps p.tables e below (T0.setTop (mkF m 113 #[.val (.int p1), .val (.int p2), .val (.int p3), .val (.int p4), .val (.int p5), .val (.int (2 : Int32)), .val (.int (Int32.ofNat d0)), .val (.int (Int32.ofNat d1)), .val (.int (Int32.ofNat d2)), .val (.ref o1), .val (.ref o2), .val (.ref o3)] [])) _
  refine XS.aload X0.here hx rfl (hb hby at_113) rfl rfl ?_
  show Steps p.tables e below (T0.setTop (mkF m 115 #[.val (.int p1), .val (.int p2), .val (.int p3), .val (.int p4), .val (.int p5), .val (.int (2 : Int32)), .val (.int (Int32.ofNat d0)), .val (.int (Int32.ofNat d1)), .val (.int (Int32.ofNat d2)), .val (.ref o1), .val (.ref o2), .val (.ref o3)] [(.ref o3)])) _
  refine X0.arraylength hx (by rw [e0]; exact ArO.1) (State.isArrayOf_alike hZ.alike ArO.2.1) (g := (mkF m 115 #[.val (.int p1), .val (.int p2), .val (.int p3), .val (.int p4), .val (.int p5), .val (.int (2 : Int32)), .val (.int (Int32.ofNat d0)), .val (.int (Int32.ofNat d1)), .val (.int (Int32.ofNat d2)), .val (.ref o1), .val (.ref o2), .val (.ref o3)] [(.ref o3)])) rfl rfl (hb hby at_115) _ ?_
  rw [len_of SO' (by decide)]
  show Steps p.tables e below (T0.setTop (mkF m 116 #[.val (.int p1), .val (.int p2), .val (.int p3), .val (.int p4), .val (.int p5), .val (.int (2 : Int32)), .val (.int (Int32.ofNat d0)), .val (.int (Int32.ofNat d1)), .val (.int (Int32.ofNat d2)), .val (.ref o1), .val (.ref o2), .val (.ref o3)] [(.int (2 : Int32))])) _
  refine XS.iload X0.here hx rfl (hb hby at_116) rfl ?_
  show Steps p.tables e below (T0.setTop (mkF m 118 #[.val (.int p1), .val (.int p2), .val (.int p3), .val (.int p4), .val (.int p5), .val (.int (2 : Int32)), .val (.int (Int32.ofNat d0)), .val (.int (Int32.ofNat d1)), .val (.int (Int32.ofNat d2)), .val (.ref o1), .val (.ref o2), .val (.ref o3)] [(.int (2 : Int32)), (.int (2 : Int32))])) _
  refine XS.icmpNo X0.here hx rfl (hb hby at_118) rfl (teq (rfl : (2 : Int32) = (2 : Int32))).2 ?_
  show Steps p.tables e below (T0.setTop (mkF m 121 #[.val (.int p1), .val (.int p2), .val (.int p3), .val (.int p4), .val (.int p5), .val (.int (2 : Int32)), .val (.int (Int32.ofNat d0)), .val (.int (Int32.ofNat d1)), .val (.int (Int32.ofNat d2)), .val (.ref o1), .val (.ref o2), .val (.ref o3)] [])) _
  refine XS.aload X0.here hx rfl (hb hby at_121) rfl rfl ?_
  show Steps p.tables e below (T0.setTop (mkF m 123 #[.val (.int p1), .val (.int p2), .val (.int p3), .val (.int p4), .val (.int p5), .val (.int (2 : Int32)), .val (.int (Int32.ofNat d0)), .val (.int (Int32.ofNat d1)), .val (.int (Int32.ofNat d2)), .val (.ref o1), .val (.ref o2), .val (.ref o3)] [(.ref o3)])) _
  refine XS.aload X0.here hx rfl (hb hby at_123) rfl rfl ?_
  show Steps p.tables e below (T0.setTop (mkF m 125 #[.val (.int p1), .val (.int p2), .val (.int p3), .val (.int p4), .val (.int p5), .val (.int (2 : Int32)), .val (.int (Int32.ofNat d0)), .val (.int (Int32.ofNat d1)), .val (.int (Int32.ofNat d2)), .val (.ref o1), .val (.ref o2), .val (.ref o3)] [(.ref o1), (.ref o3)])) _
  refine Jvm.RoadKit.acmp (g := (mkF m 125 #[.val (.int p1), .val (.int p2), .val (.int p3), .val (.int p4), .val (.int p5), .val (.int (2 : Int32)), .val (.int (Int32.ofNat d0)), .val (.int (Int32.ofNat d1)), .val (.int (Int32.ofNat d2)), .val (.ref o1), .val (.ref o2), .val (.ref o3)] [(.ref o1), (.ref o3)])) X0 hx rfl rfl rfl (pc0 := 125) (pc' := 128) (same := false) rfl (hb hby at_125) rfl (decide_eq_false fun q => ne1 (Value.ref.inj q)) (by decide) (by decide) ?_
  show Steps p.tables e below (T0.setTop (mkF m 128 #[.val (.int p1), .val (.int p2), .val (.int p3), .val (.int p4), .val (.int p5), .val (.int (2 : Int32)), .val (.int (Int32.ofNat d0)), .val (.int (Int32.ofNat d1)), .val (.int (Int32.ofNat d2)), .val (.ref o1), .val (.ref o2), .val (.ref o3)] [])) _
  refine XS.aload X0.here hx rfl (hb hby at_128) rfl rfl ?_
  show Steps p.tables e below (T0.setTop (mkF m 130 #[.val (.int p1), .val (.int p2), .val (.int p3), .val (.int p4), .val (.int p5), .val (.int (2 : Int32)), .val (.int (Int32.ofNat d0)), .val (.int (Int32.ofNat d1)), .val (.int (Int32.ofNat d2)), .val (.ref o1), .val (.ref o2), .val (.ref o3)] [(.ref o3)])) _
  refine XS.aload X0.here hx rfl (hb hby at_130) rfl rfl ?_
  show Steps p.tables e below (T0.setTop (mkF m 132 #[.val (.int p1), .val (.int p2), .val (.int p3), .val (.int p4), .val (.int p5), .val (.int (2 : Int32)), .val (.int (Int32.ofNat d0)), .val (.int (Int32.ofNat d1)), .val (.int (Int32.ofNat d2)), .val (.ref o1), .val (.ref o2), .val (.ref o3)] [(.ref o2), (.ref o3)])) _
  refine Jvm.RoadKit.acmp (g := (mkF m 132 #[.val (.int p1), .val (.int p2), .val (.int p3), .val (.int p4), .val (.int p5), .val (.int (2 : Int32)), .val (.int (Int32.ofNat d0)), .val (.int (Int32.ofNat d1)), .val (.int (Int32.ofNat d2)), .val (.ref o1), .val (.ref o2), .val (.ref o3)] [(.ref o2), (.ref o3)])) X0 hx rfl rfl rfl (pc0 := 132) (pc' := 137) (same := false) rfl (hb hby at_132) rfl (decide_eq_false fun q => ne2 (Value.ref.inj q)) (by decide) (by decide) ?_
  show Steps p.tables e below (T0.setTop (mkF m 137 #[.val (.int p1), .val (.int p2), .val (.int p3), .val (.int p4), .val (.int p5), .val (.int (2 : Int32)), .val (.int (Int32.ofNat d0)), .val (.int (Int32.ofNat d1)), .val (.int (Int32.ofNat d2)), .val (.ref o1), .val (.ref o2), .val (.ref o3)] [])) _
  refine XS.iload X0.here hx rfl (hb hby at_137) rfl ?_
  show Steps p.tables e below (T0.setTop (mkF m 139 #[.val (.int p1), .val (.int p2), .val (.int p3), .val (.int p4), .val (.int p5), .val (.int (2 : Int32)), .val (.int (Int32.ofNat d0)), .val (.int (Int32.ofNat d1)), .val (.int (Int32.ofNat d2)), .val (.ref o1), .val (.ref o2), .val (.ref o3)] [(.int (2 : Int32))])) _
  refine XS.ifNo X0.here hx rfl (hb hby at_139) rfl ((if0 _ _).trans (tlt (by decide)).2.2.2) ?_
  show Steps p.tables e below (T0.setTop (mkF m 142 #[.val (.int p1), .val (.int p2), .val (.int p3), .val (.int p4), .val (.int p5), .val (.int (2 : Int32)), .val (.int (Int32.ofNat d0)), .val (.int (Int32.ofNat d1)), .val (.int (Int32.ofNat d2)), .val (.ref o1), .val (.ref o2), .val (.ref o3)] [])) _
  refine XS.aload X0.here hx rfl (hb hby at_142) rfl rfl ?_
  show Steps p.tables e below (T0.setTop (mkF m 144 #[.val (.int p1), .val (.int p2), .val (.int p3), .val (.int p4), .val (.int p5), .val (.int (2 : Int32)), .val (.int (Int32.ofNat d0)), .val (.int (Int32.ofNat d1)), .val (.int (Int32.ofNat d2)), .val (.ref o1), .val (.ref o2), .val (.ref o3)] [(.ref o3)])) _
  refine XS.iconst X0.here hx rfl (hb hby at_144) ?_
  show Steps p.tables e below (T0.setTop (mkF m 145 #[.val (.int p1), .val (.int p2), .val (.int p3), .val (.int p4), .val (.int p5), .val (.int (2 : Int32)), .val (.int (Int32.ofNat d0)), .val (.int (Int32.ofNat d1)), .val (.int (Int32.ofNat d2)), .val (.ref o1), .val (.ref o2), .val (.ref o3)] [(.int (0 : Int32)), (.ref o3)])) _
  refine X0.iaload hx (j := (0 : Int32)) (v := (.int (own_N p1 p2 p3 d0))) (by rw [e0]; exact ArO.1) (State.isArrayOf_alike hZ.alike ArO.2.1) ArO.2.2 (by rw [SO]; decide) (show cO.slots[(0 : Int32).toNatClampNeg]? = _ from HO 0 (by decide)) (g := (mkF m 145 #[.val (.int p1), .val (.int p2), .val (.int p3), .val (.int p4), .val (.int p5), .val (.int (2 : Int32)), .val (.int (Int32.ofNat d0)), .val (.int (Int32.ofNat d1)), .val (.int (Int32.ofNat d2)), .val (.ref o1), .val (.ref o2), .val (.ref o3)] [(.int (0 : Int32)), (.ref o3)])) rfl rfl (hb hby at_145) _ ?_
  show Steps p.tables e below (T0.setTop (mkF m 146 #[.val (.int p1), .val (.int p2), .val (.int p3), .val (.int p4), .val (.int p5), .val (.int (2 : Int32)), .val (.int (Int32.ofNat d0)), .val (.int (Int32.ofNat d1)), .val (.int (Int32.ofNat d2)), .val (.ref o1), .val (.ref o2), .val (.ref o3)] [(.int (own_N p1 p2 p3 d0))])) _
  refine XS.iloadN X0.here hx rfl (hb hby at_146) rfl ?_
  show Steps p.tables e below (T0.setTop (mkF m 147 #[.val (.int p1), .val (.int p2), .val (.int p3), .val (.int p4), .val (.int p5), .val (.int (2 : Int32)), .val (.int (Int32.ofNat d0)), .val (.int (Int32.ofNat d1)), .val (.int (Int32.ofNat d2)), .val (.ref o1), .val (.ref o2), .val (.ref o3)] [(.int p1), (.int (own_N p1 p2 p3 d0))])) _
  refine XS.iloadN X0.here hx rfl (hb hby at_147) rfl ?_
  show Steps p.tables e below (T0.setTop (mkF m 148 #[.val (.int p1), .val (.int p2), .val (.int p3), .val (.int p4), .val (.int p5), .val (.int (2 : Int32)), .val (.int (Int32.ofNat d0)), .val (.int (Int32.ofNat d1)), .val (.int (Int32.ofNat d2)), .val (.ref o1), .val (.ref o2), .val (.ref o3)] [(.int p2), (.int p1), (.int (own_N p1 p2 p3 d0))])) _
  refine XS.iloadN X0.here hx rfl (hb hby at_148) rfl ?_
  show Steps p.tables e below (T0.setTop (mkF m 149 #[.val (.int p1), .val (.int p2), .val (.int p3), .val (.int p4), .val (.int p5), .val (.int (2 : Int32)), .val (.int (Int32.ofNat d0)), .val (.int (Int32.ofNat d1)), .val (.int (Int32.ofNat d2)), .val (.ref o1), .val (.ref o2), .val (.ref o3)] [(.int p3), (.int p2), (.int p1), (.int (own_N p1 p2 p3 d0))])) _
  refine XS.iload X0.here hx rfl (hb hby at_149) rfl ?_
  show Steps p.tables e below (T0.setTop (mkF m 151 #[.val (.int p1), .val (.int p2), .val (.int p3), .val (.int p4), .val (.int p5), .val (.int (2 : Int32)), .val (.int (Int32.ofNat d0)), .val (.int (Int32.ofNat d1)), .val (.int (Int32.ofNat d2)), .val (.ref o1), .val (.ref o2), .val (.ref o3)] [(.int (Int32.ofNat d0)), (.int p3), (.int p2), (.int p1), (.int (own_N p1 p2 p3 d0))])) _
  refine st1 _ ?_
  show Steps p.tables e below (T1.setTop (mkF m 154 #[.val (.int p1), .val (.int p2), .val (.int p3), .val (.int p4), .val (.int p5), .val (.int (2 : Int32)), .val (.int (Int32.ofNat d0)), .val (.int (Int32.ofNat d1)), .val (.int (Int32.ofNat d2)), .val (.ref o1), .val (.ref o2), .val (.ref o3)] [(.int (own_pick p1 p2 p3 (Int32.ofNat d0))), (.int (own_N p1 p2 p3 d0))])) _
  refine XS.icmpYes X1.here hx rfl (pc0 := 154) (pc' := 159) rfl (hb hby at_154) rfl (teq (own_pk p1 p2 p3 hd0)).1 (by decide) (by decide) ?_
  show Steps p.tables e below (T1.setTop (mkF m 159 #[.val (.int p1), .val (.int p2), .val (.int p3), .val (.int p4), .val (.int p5), .val (.int (2 : Int32)), .val (.int (Int32.ofNat d0)), .val (.int (Int32.ofNat d1)), .val (.int (Int32.ofNat d2)), .val (.ref o1), .val (.ref o2), .val (.ref o3)] [])) _
  refine XS.iload X1.here hx rfl (hb hby at_159) rfl ?_
  show Steps p.tables e below (T1.setTop (mkF m 161 #[.val (.int p1), .val (.int p2), .val (.int p3), .val (.int p4), .val (.int p5), .val (.int (2 : Int32)), .val (.int (Int32.ofNat d0)), .val (.int (Int32.ofNat d1)), .val (.int (Int32.ofNat d2)), .val (.ref o1), .val (.ref o2), .val (.ref o3)] [(.int (2 : Int32))])) _
  refine XS.iconst X1.here hx rfl (hb hby at_161) ?_
  show Steps p.tables e below (T1.setTop (mkF m 162 #[.val (.int p1), .val (.int p2), .val (.int p3), .val (.int p4), .val (.int p5), .val (.int (2 : Int32)), .val (.int (Int32.ofNat d0)), .val (.int (Int32.ofNat d1)), .val (.int (Int32.ofNat d2)), .val (.ref o1), .val (.ref o2), .val (.ref o3)] [(.int (1 : Int32)), (.int (2 : Int32))])) _
  refine XS.icmpNo X1.here hx rfl (hb hby at_162) rfl (tlt (by decide)).2.2.2 ?_
  show Steps p.tables e below (T1.setTop (mkF m 165 #[.val (.int p1), .val (.int p2), .val (.int p3), .val (.int p4), .val (.int p5), .val (.int (2 : Int32)), .val (.int (Int32.ofNat d0)), .val (.int (Int32.ofNat d1)), .val (.int (Int32.ofNat d2)), .val (.ref o1), .val (.ref o2), .val (.ref o3)] [])) _
  refine XS.aload X1.here hx rfl (hb hby at_165) rfl rfl ?_
  show Steps p.tables e below (T1.setTop (mkF m 167 #[.val (.int p1), .val (.int p2), .val (.int p3), .val (.int p4), .val (.int p5), .val (.int (2 : Int32)), .val (.int (Int32.ofNat d0)), .val (.int (Int32.ofNat d1)), .val (.int (Int32.ofNat d2)), .val (.ref o1), .val (.ref o2), .val (.ref o3)] [(.ref o3)])) _
  refine XS.iconst X1.here hx rfl (hb hby at_167) ?_
  show Steps p.tables e below (T1.setTop (mkF m 168 #[.val (.int p1), .val (.int p2), .val (.int p3), .val (.int p4), .val (.int p5), .val (.int (2 : Int32)), .val (.int (Int32.ofNat d0)), .val (.int (Int32.ofNat d1)), .val (.int (Int32.ofNat d2)), .val (.ref o1), .val (.ref o2), .val (.ref o3)] [(.int (1 : Int32)), (.ref o3)])) _
  refine X1.iaload hx (j := (1 : Int32)) (v := (.int (own_N p1 p2 p3 d1))) (by rw [e1]; exact ArO.1) (State.isArrayOf_alike hZ.alike ArO.2.1) ArO.2.2 (by rw [SO]; decide) (show cO.slots[(1 : Int32).toNatClampNeg]? = _ from HO 1 (by decide)) (g := (mkF m 168 #[.val (.int p1), .val (.int p2), .val (.int p3), .val (.int p4), .val (.int p5), .val (.int (2 : Int32)), .val (.int (Int32.ofNat d0)), .val (.int (Int32.ofNat d1)), .val (.int (Int32.ofNat d2)), .val (.ref o1), .val (.ref o2), .val (.ref o3)] [(.int (1 : Int32)), (.ref o3)])) rfl rfl (hb hby at_168) _ ?_
  show Steps p.tables e below (T1.setTop (mkF m 169 #[.val (.int p1), .val (.int p2), .val (.int p3), .val (.int p4), .val (.int p5), .val (.int (2 : Int32)), .val (.int (Int32.ofNat d0)), .val (.int (Int32.ofNat d1)), .val (.int (Int32.ofNat d2)), .val (.ref o1), .val (.ref o2), .val (.ref o3)] [(.int (own_N p1 p2 p3 d1))])) _
  refine XS.iloadN X1.here hx rfl (hb hby at_169) rfl ?_
  show Steps p.tables e below (T1.setTop (mkF m 170 #[.val (.int p1), .val (.int p2), .val (.int p3), .val (.int p4), .val (.int p5), .val (.int (2 : Int32)), .val (.int (Int32.ofNat d0)), .val (.int (Int32.ofNat d1)), .val (.int (Int32.ofNat d2)), .val (.ref o1), .val (.ref o2), .val (.ref o3)] [(.int p1), (.int (own_N p1 p2 p3 d1))])) _
  refine XS.iloadN X1.here hx rfl (hb hby at_170) rfl ?_
  show Steps p.tables e below (T1.setTop (mkF m 171 #[.val (.int p1), .val (.int p2), .val (.int p3), .val (.int p4), .val (.int p5), .val (.int (2 : Int32)), .val (.int (Int32.ofNat d0)), .val (.int (Int32.ofNat d1)), .val (.int (Int32.ofNat d2)), .val (.ref o1), .val (.ref o2), .val (.ref o3)] [(.int p2), (.int p1), (.int (own_N p1 p2 p3 d1))])) _
  refine XS.iloadN X1.here hx rfl (hb hby at_171) rfl ?_
  show Steps p.tables e below (T1.setTop (mkF m 172 #[.val (.int p1), .val (.int p2), .val (.int p3), .val (.int p4), .val (.int p5), .val (.int (2 : Int32)), .val (.int (Int32.ofNat d0)), .val (.int (Int32.ofNat d1)), .val (.int (Int32.ofNat d2)), .val (.ref o1), .val (.ref o2), .val (.ref o3)] [(.int p3), (.int p2), (.int p1), (.int (own_N p1 p2 p3 d1))])) _
  refine XS.iload X1.here hx rfl (hb hby at_172) rfl ?_
  show Steps p.tables e below (T1.setTop (mkF m 174 #[.val (.int p1), .val (.int p2), .val (.int p3), .val (.int p4), .val (.int p5), .val (.int (2 : Int32)), .val (.int (Int32.ofNat d0)), .val (.int (Int32.ofNat d1)), .val (.int (Int32.ofNat d2)), .val (.ref o1), .val (.ref o2), .val (.ref o3)] [(.int (Int32.ofNat d1)), (.int p3), (.int p2), (.int p1), (.int (own_N p1 p2 p3 d1))])) _
  refine st2 _ ?_
  show Steps p.tables e below (T2.setTop (mkF m 177 #[.val (.int p1), .val (.int p2), .val (.int p3), .val (.int p4), .val (.int p5), .val (.int (2 : Int32)), .val (.int (Int32.ofNat d0)), .val (.int (Int32.ofNat d1)), .val (.int (Int32.ofNat d2)), .val (.ref o1), .val (.ref o2), .val (.ref o3)] [(.int (own_pick p1 p2 p3 (Int32.ofNat d1))), (.int (own_N p1 p2 p3 d1))])) _
  refine XS.icmpYes X2.here hx rfl (pc0 := 177) (pc' := 182) rfl (hb hby at_177) rfl (teq (own_pk p1 p2 p3 hd1)).1 (by decide) (by decide) ?_
  show Steps p.tables e below (T2.setTop (mkF m 182 #[.val (.int p1), .val (.int p2), .val (.int p3), .val (.int p4), .val (.int p5), .val (.int (2 : Int32)), .val (.int (Int32.ofNat d0)), .val (.int (Int32.ofNat d1)), .val (.int (Int32.ofNat d2)), .val (.ref o1), .val (.ref o2), .val (.ref o3)] [])) _
  refine XS.iload X2.here hx rfl (hb hby at_182) rfl ?_
  show Steps p.tables e below (T2.setTop (mkF m 184 #[.val (.int p1), .val (.int p2), .val (.int p3), .val (.int p4), .val (.int p5), .val (.int (2 : Int32)), .val (.int (Int32.ofNat d0)), .val (.int (Int32.ofNat d1)), .val (.int (Int32.ofNat d2)), .val (.ref o1), .val (.ref o2), .val (.ref o3)] [(.int (2 : Int32))])) _
  refine XS.iconst X2.here hx rfl (hb hby at_184) ?_
  show Steps p.tables e below (T2.setTop (mkF m 185 #[.val (.int p1), .val (.int p2), .val (.int p3), .val (.int p4), .val (.int p5), .val (.int (2 : Int32)), .val (.int (Int32.ofNat d0)), .val (.int (Int32.ofNat d1)), .val (.int (Int32.ofNat d2)), .val (.ref o1), .val (.ref o2), .val (.ref o3)] [(.int (2 : Int32)), (.int (2 : Int32))])) _
  refine XS.icmpYes X2.here hx rfl (pc0 := 185) (pc' := 205) rfl (hb hby at_185) rfl (flt (by decide)).2.2.2 (by decide) (by decide) ?_
  show Steps p.tables e below (T2.setTop (mkF m 205 #[.val (.int p1), .val (.int p2), .val (.int p3), .val (.int p4), .val (.int p5), .val (.int (2 : Int32)), .val (.int (Int32.ofNat d0)), .val (.int (Int32.ofNat d1)), .val (.int (Int32.ofNat d2)), .val (.ref o1), .val (.ref o2), .val (.ref o3)] [])) _
  refine XS.aload X2.here hx rfl (hb hby at_205) rfl rfl ?_
  show Steps p.tables e below (T2.setTop (mkF m 207 #[.val (.int p1), .val (.int p2), .val (.int p3), .val (.int p4), .val (.int p5), .val (.int (2 : Int32)), .val (.int (Int32.ofNat d0)), .val (.int (Int32.ofNat d1)), .val (.int (Int32.ofNat d2)), .val (.ref o1), .val (.ref o2), .val (.ref o3)] [(.ref o1)])) _
  refine XS.iconst X2.here hx rfl (hb hby at_207) ?_
  show Steps p.tables e below (T2.setTop (mkF m 208 #[.val (.int p1), .val (.int p2), .val (.int p3), .val (.int p4), .val (.int p5), .val (.int (2 : Int32)), .val (.int (Int32.ofNat d0)), .val (.int (Int32.ofNat d1)), .val (.int (Int32.ofNat d2)), .val (.ref o1), .val (.ref o2), .val (.ref o3)] [(.int (0 : Int32)), (.ref o1)])) _
  refine X2.iaload hx (j := (0 : Int32)) (v := (.int p1)) (by rw [e2]; exact ArN.1) (State.isArrayOf_alike hZ.alike ArN.2.1) ArN.2.2 (by rw [SN]; decide) (show cN.slots[(0 : Int32).toNatClampNeg]? = _ from HN 0 (by decide)) (g := (mkF m 208 #[.val (.int p1), .val (.int p2), .val (.int p3), .val (.int p4), .val (.int p5), .val (.int (2 : Int32)), .val (.int (Int32.ofNat d0)), .val (.int (Int32.ofNat d1)), .val (.int (Int32.ofNat d2)), .val (.ref o1), .val (.ref o2), .val (.ref o3)] [(.int (0 : Int32)), (.ref o1)])) rfl rfl (hb hby at_208) _ ?_
  show Steps p.tables e below (T2.setTop (mkF m 209 #[.val (.int p1), .val (.int p2), .val (.int p3), .val (.int p4), .val (.int p5), .val (.int (2 : Int32)), .val (.int (Int32.ofNat d0)), .val (.int (Int32.ofNat d1)), .val (.int (Int32.ofNat d2)), .val (.ref o1), .val (.ref o2), .val (.ref o3)] [(.int p1)])) _
  refine XS.iloadN X2.here hx rfl (hb hby at_209) rfl ?_
  show Steps p.tables e below (T2.setTop (mkF m 210 #[.val (.int p1), .val (.int p2), .val (.int p3), .val (.int p4), .val (.int p5), .val (.int (2 : Int32)), .val (.int (Int32.ofNat d0)), .val (.int (Int32.ofNat d1)), .val (.int (Int32.ofNat d2)), .val (.ref o1), .val (.ref o2), .val (.ref o3)] [(.int p1), (.int p1)])) _
  refine XS.icmpNo X2.here hx rfl (hb hby at_210) rfl (teq (rfl : p1 = p1)).2 ?_
  show Steps p.tables e below (T2.setTop (mkF m 213 #[.val (.int p1), .val (.int p2), .val (.int p3), .val (.int p4), .val (.int p5), .val (.int (2 : Int32)), .val (.int (Int32.ofNat d0)), .val (.int (Int32.ofNat d1)), .val (.int (Int32.ofNat d2)), .val (.ref o1), .val (.ref o2), .val (.ref o3)] [])) _
  refine XS.aload X2.here hx rfl (hb hby at_213) rfl rfl ?_
  show Steps p.tables e below (T2.setTop (mkF m 215 #[.val (.int p1), .val (.int p2), .val (.int p3), .val (.int p4), .val (.int p5), .val (.int (2 : Int32)), .val (.int (Int32.ofNat d0)), .val (.int (Int32.ofNat d1)), .val (.int (Int32.ofNat d2)), .val (.ref o1), .val (.ref o2), .val (.ref o3)] [(.ref o1)])) _
  refine XS.iconst X2.here hx rfl (hb hby at_215) ?_
  show Steps p.tables e below (T2.setTop (mkF m 216 #[.val (.int p1), .val (.int p2), .val (.int p3), .val (.int p4), .val (.int p5), .val (.int (2 : Int32)), .val (.int (Int32.ofNat d0)), .val (.int (Int32.ofNat d1)), .val (.int (Int32.ofNat d2)), .val (.ref o1), .val (.ref o2), .val (.ref o3)] [(.int (1 : Int32)), (.ref o1)])) _
  refine X2.iaload hx (j := (1 : Int32)) (v := (.int p2)) (by rw [e2]; exact ArN.1) (State.isArrayOf_alike hZ.alike ArN.2.1) ArN.2.2 (by rw [SN]; decide) (show cN.slots[(1 : Int32).toNatClampNeg]? = _ from HN 1 (by decide)) (g := (mkF m 216 #[.val (.int p1), .val (.int p2), .val (.int p3), .val (.int p4), .val (.int p5), .val (.int (2 : Int32)), .val (.int (Int32.ofNat d0)), .val (.int (Int32.ofNat d1)), .val (.int (Int32.ofNat d2)), .val (.ref o1), .val (.ref o2), .val (.ref o3)] [(.int (1 : Int32)), (.ref o1)])) rfl rfl (hb hby at_216) _ ?_
  show Steps p.tables e below (T2.setTop (mkF m 217 #[.val (.int p1), .val (.int p2), .val (.int p3), .val (.int p4), .val (.int p5), .val (.int (2 : Int32)), .val (.int (Int32.ofNat d0)), .val (.int (Int32.ofNat d1)), .val (.int (Int32.ofNat d2)), .val (.ref o1), .val (.ref o2), .val (.ref o3)] [(.int p2)])) _
  refine XS.iloadN X2.here hx rfl (hb hby at_217) rfl ?_
  show Steps p.tables e below (T2.setTop (mkF m 218 #[.val (.int p1), .val (.int p2), .val (.int p3), .val (.int p4), .val (.int p5), .val (.int (2 : Int32)), .val (.int (Int32.ofNat d0)), .val (.int (Int32.ofNat d1)), .val (.int (Int32.ofNat d2)), .val (.ref o1), .val (.ref o2), .val (.ref o3)] [(.int p2), (.int p2)])) _
  refine XS.icmpNo X2.here hx rfl (hb hby at_218) rfl (teq (rfl : p2 = p2)).2 ?_
  show Steps p.tables e below (T2.setTop (mkF m 221 #[.val (.int p1), .val (.int p2), .val (.int p3), .val (.int p4), .val (.int p5), .val (.int (2 : Int32)), .val (.int (Int32.ofNat d0)), .val (.int (Int32.ofNat d1)), .val (.int (Int32.ofNat d2)), .val (.ref o1), .val (.ref o2), .val (.ref o3)] [])) _
  refine XS.aload X2.here hx rfl (hb hby at_221) rfl rfl ?_
  show Steps p.tables e below (T2.setTop (mkF m 223 #[.val (.int p1), .val (.int p2), .val (.int p3), .val (.int p4), .val (.int p5), .val (.int (2 : Int32)), .val (.int (Int32.ofNat d0)), .val (.int (Int32.ofNat d1)), .val (.int (Int32.ofNat d2)), .val (.ref o1), .val (.ref o2), .val (.ref o3)] [(.ref o1)])) _
  refine XS.iconst X2.here hx rfl (hb hby at_223) ?_
  show Steps p.tables e below (T2.setTop (mkF m 224 #[.val (.int p1), .val (.int p2), .val (.int p3), .val (.int p4), .val (.int p5), .val (.int (2 : Int32)), .val (.int (Int32.ofNat d0)), .val (.int (Int32.ofNat d1)), .val (.int (Int32.ofNat d2)), .val (.ref o1), .val (.ref o2), .val (.ref o3)] [(.int (2 : Int32)), (.ref o1)])) _
  refine X2.iaload hx (j := (2 : Int32)) (v := (.int p3)) (by rw [e2]; exact ArN.1) (State.isArrayOf_alike hZ.alike ArN.2.1) ArN.2.2 (by rw [SN]; decide) (show cN.slots[(2 : Int32).toNatClampNeg]? = _ from HN 2 (by decide)) (g := (mkF m 224 #[.val (.int p1), .val (.int p2), .val (.int p3), .val (.int p4), .val (.int p5), .val (.int (2 : Int32)), .val (.int (Int32.ofNat d0)), .val (.int (Int32.ofNat d1)), .val (.int (Int32.ofNat d2)), .val (.ref o1), .val (.ref o2), .val (.ref o3)] [(.int (2 : Int32)), (.ref o1)])) rfl rfl (hb hby at_224) _ ?_
  show Steps p.tables e below (T2.setTop (mkF m 225 #[.val (.int p1), .val (.int p2), .val (.int p3), .val (.int p4), .val (.int p5), .val (.int (2 : Int32)), .val (.int (Int32.ofNat d0)), .val (.int (Int32.ofNat d1)), .val (.int (Int32.ofNat d2)), .val (.ref o1), .val (.ref o2), .val (.ref o3)] [(.int p3)])) _
  refine XS.iloadN X2.here hx rfl (hb hby at_225) rfl ?_
  show Steps p.tables e below (T2.setTop (mkF m 226 #[.val (.int p1), .val (.int p2), .val (.int p3), .val (.int p4), .val (.int p5), .val (.int (2 : Int32)), .val (.int (Int32.ofNat d0)), .val (.int (Int32.ofNat d1)), .val (.int (Int32.ofNat d2)), .val (.ref o1), .val (.ref o2), .val (.ref o3)] [(.int p3), (.int p3)])) _
  refine XS.icmpYes X2.here hx rfl (pc0 := 226) (pc' := 231) rfl (hb hby at_226) rfl (teq (rfl : p3 = p3)).1 (by decide) (by decide) ?_
  show Steps p.tables e below (T2.setTop (mkF m 231 #[.val (.int p1), .val (.int p2), .val (.int p3), .val (.int p4), .val (.int p5), .val (.int (2 : Int32)), .val (.int (Int32.ofNat d0)), .val (.int (Int32.ofNat d1)), .val (.int (Int32.ofNat d2)), .val (.ref o1), .val (.ref o2), .val (.ref o3)] [])) _
  refine XS.iload X2.here hx rfl (hb hby at_231) rfl ?_
  show Steps p.tables e below (T2.setTop (mkF m 233 #[.val (.int p1), .val (.int p2), .val (.int p3), .val (.int p4), .val (.int p5), .val (.int (2 : Int32)), .val (.int (Int32.ofNat d0)), .val (.int (Int32.ofNat d1)), .val (.int (Int32.ofNat d2)), .val (.ref o1), .val (.ref o2), .val (.ref o3)] [(.int (2 : Int32))])) _
  refine XS.ifNo X2.here hx rfl (hb hby at_233) rfl ((if0 _ _).trans (tlt (by decide)).2.2.2) ?_
  show Steps p.tables e below (T2.setTop (mkF m 236 #[.val (.int p1), .val (.int p2), .val (.int p3), .val (.int p4), .val (.int p5), .val (.int (2 : Int32)), .val (.int (Int32.ofNat d0)), .val (.int (Int32.ofNat d1)), .val (.int (Int32.ofNat d2)), .val (.ref o1), .val (.ref o2), .val (.ref o3)] [])) _
  refine XS.aload X2.here hx rfl (hb hby at_236) rfl rfl ?_
  show Steps p.tables e below (T2.setTop (mkF m 238 #[.val (.int p1), .val (.int p2), .val (.int p3), .val (.int p4), .val (.int p5), .val (.int (2 : Int32)), .val (.int (Int32.ofNat d0)), .val (.int (Int32.ofNat d1)), .val (.int (Int32.ofNat d2)), .val (.ref o1), .val (.ref o2), .val (.ref o3)] [(.ref o2)])) _
  refine XS.iconst X2.here hx rfl (hb hby at_238) ?_
  show Steps p.tables e below (T2.setTop (mkF m 239 #[.val (.int p1), .val (.int p2), .val (.int p3), .val (.int p4), .val (.int p5), .val (.int (2 : Int32)), .val (.int (Int32.ofNat d0)), .val (.int (Int32.ofNat d1)), .val (.int (Int32.ofNat d2)), .val (.ref o1), .val (.ref o2), .val (.ref o3)] [(.int (0 : Int32)), (.ref o2)])) _
  refine X2.iaload hx (j := (0 : Int32)) (v := (.int (Int32.ofNat d0))) (by rw [e2]; exact ArI.1) (State.isArrayOf_alike hZ.alike ArI.2.1) ArI.2.2 (by rw [SI]; decide) (show cI.slots[(0 : Int32).toNatClampNeg]? = _ from HI 0 (by decide)) (g := (mkF m 239 #[.val (.int p1), .val (.int p2), .val (.int p3), .val (.int p4), .val (.int p5), .val (.int (2 : Int32)), .val (.int (Int32.ofNat d0)), .val (.int (Int32.ofNat d1)), .val (.int (Int32.ofNat d2)), .val (.ref o1), .val (.ref o2), .val (.ref o3)] [(.int (0 : Int32)), (.ref o2)])) rfl rfl (hb hby at_239) _ ?_
  show Steps p.tables e below (T2.setTop (mkF m 240 #[.val (.int p1), .val (.int p2), .val (.int p3), .val (.int p4), .val (.int p5), .val (.int (2 : Int32)), .val (.int (Int32.ofNat d0)), .val (.int (Int32.ofNat d1)), .val (.int (Int32.ofNat d2)), .val (.ref o1), .val (.ref o2), .val (.ref o3)] [(.int (Int32.ofNat d0))])) _
  refine XS.iload X2.here hx rfl (hb hby at_240) rfl ?_
  show Steps p.tables e below (T2.setTop (mkF m 242 #[.val (.int p1), .val (.int p2), .val (.int p3), .val (.int p4), .val (.int p5), .val (.int (2 : Int32)), .val (.int (Int32.ofNat d0)), .val (.int (Int32.ofNat d1)), .val (.int (Int32.ofNat d2)), .val (.ref o1), .val (.ref o2), .val (.ref o3)] [(.int (Int32.ofNat d0)), (.int (Int32.ofNat d0))])) _
  refine XS.icmpYes X2.here hx rfl (pc0 := 242) (pc' := 247) rfl (hb hby at_242) rfl (teq (rfl : Int32.ofNat d0 = Int32.ofNat d0)).1 (by decide) (by decide) ?_
  show Steps p.tables e below (T2.setTop (mkF m 247 #[.val (.int p1), .val (.int p2), .val (.int p3), .val (.int p4), .val (.int p5), .val (.int (2 : Int32)), .val (.int (Int32.ofNat d0)), .val (.int (Int32.ofNat d1)), .val (.int (Int32.ofNat d2)), .val (.ref o1), .val (.ref o2), .val (.ref o3)] [])) _
  refine XS.iload X2.here hx rfl (hb hby at_247) rfl ?_
  show Steps p.tables e below (T2.setTop (mkF m 249 #[.val (.int p1), .val (.int p2), .val (.int p3), .val (.int p4), .val (.int p5), .val (.int (2 : Int32)), .val (.int (Int32.ofNat d0)), .val (.int (Int32.ofNat d1)), .val (.int (Int32.ofNat d2)), .val (.ref o1), .val (.ref o2), .val (.ref o3)] [(.int (2 : Int32))])) _
  refine XS.iconst X2.here hx rfl (hb hby at_249) ?_
  show Steps p.tables e below (T2.setTop (mkF m 250 #[.val (.int p1), .val (.int p2), .val (.int p3), .val (.int p4), .val (.int p5), .val (.int (2 : Int32)), .val (.int (Int32.ofNat d0)), .val (.int (Int32.ofNat d1)), .val (.int (Int32.ofNat d2)), .val (.ref o1), .val (.ref o2), .val (.ref o3)] [(.int (1 : Int32)), (.int (2 : Int32))])) _
  refine XS.icmpNo X2.here hx rfl (hb hby at_250) rfl (tlt (by decide)).2.2.2 ?_
  show Steps p.tables e below (T2.setTop (mkF m 253 #[.val (.int p1), .val (.int p2), .val (.int p3), .val (.int p4), .val (.int p5), .val (.int (2 : Int32)), .val (.int (Int32.ofNat d0)), .val (.int (Int32.ofNat d1)), .val (.int (Int32.ofNat d2)), .val (.ref o1), .val (.ref o2), .val (.ref o3)] [])) _
  refine XS.aload X2.here hx rfl (hb hby at_253) rfl rfl ?_
  show Steps p.tables e below (T2.setTop (mkF m 255 #[.val (.int p1), .val (.int p2), .val (.int p3), .val (.int p4), .val (.int p5), .val (.int (2 : Int32)), .val (.int (Int32.ofNat d0)), .val (.int (Int32.ofNat d1)), .val (.int (Int32.ofNat d2)), .val (.ref o1), .val (.ref o2), .val (.ref o3)] [(.ref o2)])) _
  refine XS.iconst X2.here hx rfl (hb hby at_255) ?_
  show Steps p.tables e below (T2.setTop (mkF m 256 #[.val (.int p1), .val (.int p2), .val (.int p3), .val (.int p4), .val (.int p5), .val (.int (2 : Int32)), .val (.int (Int32.ofNat d0)), .val (.int (Int32.ofNat d1)), .val (.int (Int32.ofNat d2)), .val (.ref o1), .val (.ref o2), .val (.ref o3)] [(.int (1 : Int32)), (.ref o2)])) _
  refine X2.iaload hx (j := (1 : Int32)) (v := (.int (Int32.ofNat d1))) (by rw [e2]; exact ArI.1) (State.isArrayOf_alike hZ.alike ArI.2.1) ArI.2.2 (by rw [SI]; decide) (show cI.slots[(1 : Int32).toNatClampNeg]? = _ from HI 1 (by decide)) (g := (mkF m 256 #[.val (.int p1), .val (.int p2), .val (.int p3), .val (.int p4), .val (.int p5), .val (.int (2 : Int32)), .val (.int (Int32.ofNat d0)), .val (.int (Int32.ofNat d1)), .val (.int (Int32.ofNat d2)), .val (.ref o1), .val (.ref o2), .val (.ref o3)] [(.int (1 : Int32)), (.ref o2)])) rfl rfl (hb hby at_256) _ ?_
  show Steps p.tables e below (T2.setTop (mkF m 257 #[.val (.int p1), .val (.int p2), .val (.int p3), .val (.int p4), .val (.int p5), .val (.int (2 : Int32)), .val (.int (Int32.ofNat d0)), .val (.int (Int32.ofNat d1)), .val (.int (Int32.ofNat d2)), .val (.ref o1), .val (.ref o2), .val (.ref o3)] [(.int (Int32.ofNat d1))])) _
  refine XS.iload X2.here hx rfl (hb hby at_257) rfl ?_
  show Steps p.tables e below (T2.setTop (mkF m 259 #[.val (.int p1), .val (.int p2), .val (.int p3), .val (.int p4), .val (.int p5), .val (.int (2 : Int32)), .val (.int (Int32.ofNat d0)), .val (.int (Int32.ofNat d1)), .val (.int (Int32.ofNat d2)), .val (.ref o1), .val (.ref o2), .val (.ref o3)] [(.int (Int32.ofNat d1)), (.int (Int32.ofNat d1))])) _
  refine XS.icmpYes X2.here hx rfl (pc0 := 259) (pc' := 264) rfl (hb hby at_259) rfl (teq (rfl : Int32.ofNat d1 = Int32.ofNat d1)).1 (by decide) (by decide) ?_
  show Steps p.tables e below (T2.setTop (mkF m 264 #[.val (.int p1), .val (.int p2), .val (.int p3), .val (.int p4), .val (.int p5), .val (.int (2 : Int32)), .val (.int (Int32.ofNat d0)), .val (.int (Int32.ofNat d1)), .val (.int (Int32.ofNat d2)), .val (.ref o1), .val (.ref o2), .val (.ref o3)] [])) _
  refine XS.iload X2.here hx rfl (hb hby at_264) rfl ?_
  show Steps p.tables e below (T2.setTop (mkF m 266 #[.val (.int p1), .val (.int p2), .val (.int p3), .val (.int p4), .val (.int p5), .val (.int (2 : Int32)), .val (.int (Int32.ofNat d0)), .val (.int (Int32.ofNat d1)), .val (.int (Int32.ofNat d2)), .val (.ref o1), .val (.ref o2), .val (.ref o3)] [(.int (2 : Int32))])) _
  refine XS.iconst X2.here hx rfl (hb hby at_266) ?_
  show Steps p.tables e below (T2.setTop (mkF m 267 #[.val (.int p1), .val (.int p2), .val (.int p3), .val (.int p4), .val (.int p5), .val (.int (2 : Int32)), .val (.int (Int32.ofNat d0)), .val (.int (Int32.ofNat d1)), .val (.int (Int32.ofNat d2)), .val (.ref o1), .val (.ref o2), .val (.ref o3)] [(.int (2 : Int32)), (.int (2 : Int32))])) _
  refine XS.icmpYes X2.here hx rfl (pc0 := 267) (pc' := 281) rfl (hb hby at_267) rfl (flt (by decide)).2.2.2 (by decide) (by decide) ?_
  show Steps p.tables e below (T2.setTop (mkF m 281 #[.val (.int p1), .val (.int p2), .val (.int p3), .val (.int p4), .val (.int p5), .val (.int (2 : Int32)), .val (.int (Int32.ofNat d0)), .val (.int (Int32.ofNat d1)), .val (.int (Int32.ofNat d2)), .val (.ref o1), .val (.ref o2), .val (.ref o3)] [])) _
  refine XS.iconst X2.here hx rfl (hb hby at_281) ?_
  exact kt
set_option maxRecDepth 65536 in
set_option maxHeartbeats 40000000 in
theorem tail_3 {p : Program} {l : Launch} {e : Env} {s : State} {m : MethodId} {args : Array Value} {below : List Frame} {meth : Method} {c : Code} {T0 : State} {locs : List Loc} {Z : State} {a0 : Array Value} {h0 : Heap} {n0 : Nat} (p1 p2 p3 p4 p5 : Int32) (d0 d1 d2 : Nat) (o1 o2 o3 : Addr)
    (X0 : Stand p l e room_1 s m args below meth c T0 locs 3 9) (hx : p.tables.exec = Jvm.exec) (hZ : Z.Warmed39 s.vm) (hw : ∀ d ∈ tables_1, d.before a0 Z = true) (hby : c.code = code) (hown : s.vm.findClass "com/example/syngraft/syngraft/core/DiffTreeNumbersOfPinLaw" = some m.cls) (e0 : T0.heap = h0) (hml : c.maxLocals = 12) (Z0 : n0 ≤ h0.size) (N0 : Fr n0 locs) (hd0 : d0 < 3) (hd1 : d1 < 3) (hd2 : d2 < 3) (ne1 : o3 ≠ o1) (ne2 : o3 ≠ o2) (V1 : AF Z h0 o1 .int 3 (fun j => .int (own_N p1 p2 p3 j))) (V2 : AF Z h0 o2 .int 3 (fun j => .int (Int32.ofNat (own_d d0 d1 d2 j)))) (V3 : AF Z h0 o3 .int 3 (fun j => .int (own_N p1 p2 p3 (own_d d0 d1 d2 j)))) :
    ∃ (T' : State) (locs' : List Loc), Stand p l e room_1 s m args below meth c T' locs' 3 9 ∧ T'.heap = h0 ∧ Fr n0 locs' ∧
      ∀ target, Steps p.tables e below (T'.setTop (mkF m 282 #[.val (.int p1), .val (.int p2), .val (.int p3), .val (.int p4), .val (.int p5), .val (.int (3 : Int32)), .val (.int (Int32.ofNat d0)), .val (.int (Int32.ofNat d1)), .val (.int (Int32.ofNat d2)), .val (.ref o1), .val (.ref o2), .val (.ref o3)] [(.int (1 : Int32))])) target → Steps p.tables e below (T0.setTop (mkF m 106 #[.val (.int p1), .val (.int p2), .val (.int p3), .val (.int p4), .val (.int p5), .val (.int (3 : Int32)), .val (.int (Int32.ofNat d0)), .val (.int (Int32.ofNat d1)), .val (.int (Int32.ofNat d2)), .val (.ref o1), .val (.ref o2), .unset] [(.ref o3)])) target := by
  obtain ⟨cN, ArN, SN, HN⟩ := V1
  obtain ⟨cI, ArI, SI, HI⟩ := V2
  obtain ⟨cO, ArO, SO, HO⟩ := V3
  have SO' : cO.slots.size = (3 : Int32).toNatClampNeg := SO
  obtain ⟨_, _, ⟨T1, L1, k1, n1⟩, -, X1, ⟨Lc1, hQ1, l1, y1, z1⟩, st1⟩ := Jvm.LawKit.callS X0 hx (y := (⟨"com/example/syngraft/syngraft/core/DiffTreeNumbersOfPinLaw", "pick", "(IIII)I"⟩ : MethodName)) hown (mvT hZ (hw _ (List.mem_of_getElem? (i := 5) rfl))) (mvT hZ (hw _ (List.mem_of_getElem? (i := 6) rfl))) (mvT hZ (hw _ (List.mem_of_getElem? (i := 7) rfl))) (mvT hZ (hw _ (List.mem_of_getElem? (i := 8) rfl))) (by decide) (backOf (W := 1) (rm2 l Z a0 hw [] p1 p2 p3 (Int32.ofNat d0) h0 n0 Z0) hZ (hw _ (List.mem_of_getElem? (i := 8) rfl)) (hw _ (List.mem_of_getElem? (i := 7) rfl)) (by decide) (by decide)) (g := (mkF m 151 #[.val (.int p1), .val (.int p2), .val (.int p3), .val (.int p4), .val (.int p5), .val (.int (3 : Int32)), .val (.int (Int32.ofNat d0)), .val (.int (Int32.ofNat d1)), .val (.int (Int32.ofNat d2)), .val (.ref o1), .val (.ref o2), .val (.ref o3)] [(.int (Int32.ofNat d0)), (.int p3), (.int p2), (.int p1), (.int (own_N p1 p2 p3 d0))])) rfl (by rw [hml]; rfl) (argsL := [(.int p1), (.int p2), (.int p3), (.int (Int32.ofNat d0))]) (rest := [(.int (own_N p1 p2 p3 d0))]) (lenOf pd_0_pick rfl) rfl (by show 2 * 0 + _ ≤ _; exact Nat.le_of_eq rfl) (hb hby at_151) (fun _ _ => ⟨rfl, e0, (by decide : 3 + 0 ≤ _), (by decide : 9 + 0 ≤ _)⟩)
  dsimp only [Pt.U, Pt.locs, Pt.cells, Pt.slots] at X1 l1 y1 z1 st1 hQ1
  subst l1 y1 z1
  obtain ⟨rfl, N1q, e1⟩ := hQ1
  have N1 := Fr.app N0 N1q
  obtain ⟨_, _, ⟨T2, L2, k2, n2⟩, -, X2, ⟨Lc2, hQ2, l2, y2, z2⟩, st2⟩ := Jvm.LawKit.callS X1 hx (y := (⟨"com/example/syngraft/syngraft/core/DiffTreeNumbersOfPinLaw", "pick", "(IIII)I"⟩ : MethodName)) hown (mvT hZ (hw _ (List.mem_of_getElem? (i := 5) rfl))) (mvT hZ (hw _ (List.mem_of_getElem? (i := 6) rfl))) (mvT hZ (hw _ (List.mem_of_getElem? (i := 7) rfl))) (mvT hZ (hw _ (List.mem_of_getElem? (i := 8) rfl))) (by decide) (backOf (W := 1) (rm2 l Z a0 hw [] p1 p2 p3 (Int32.ofNat d1) h0 n0 Z0) hZ (hw _ (List.mem_of_getElem? (i := 8) rfl)) (hw _ (List.mem_of_getElem? (i := 7) rfl)) (by decide) (by decide)) (g := (mkF m 174 #[.val (.int p1), .val (.int p2), .val (.int p3), .val (.int p4), .val (.int p5), .val (.int (3 : Int32)), .val (.int (Int32.ofNat d0)), .val (.int (Int32.ofNat d1)), .val (.int (Int32.ofNat d2)), .val (.ref o1), .val (.ref o2), .val (.ref o3)] [(.int (Int32.ofNat d1)), (.int p3), (.int p2), (.int p1), (.int (own_N p1 p2 p3 d1))])) rfl (by rw [hml]; rfl) (argsL := [(.int p1), (.int p2), (.int p3), (.int (Int32.ofNat d1))]) (rest := [(.int (own_N p1 p2 p3 d1))]) (lenOf pd_0_pick rfl) rfl (by show 2 * 0 + _ ≤ _; exact Nat.le_of_eq rfl) (hb hby at_174) (fun _ _ => ⟨rfl, e1, (by decide : 3 + 0 ≤ _), (by decide : 9 + 0 ≤ _)⟩)
  dsimp only [Pt.U, Pt.locs, Pt.cells, Pt.slots] at X2 l2 y2 z2 st2 hQ2
  subst l2 y2 z2
  obtain ⟨rfl, N2q, e2⟩ := hQ2
  have N2 := Fr.app N1 N2q
  obtain ⟨_, _, ⟨T3, L3, k3, n3⟩, -, X3, ⟨Lc3, hQ3, l3, y3, z3⟩, st3⟩ := Jvm.LawKit.callS X2 hx (y := (⟨"com/example/syngraft/syngraft/core/DiffTreeNumbersOfPinLaw", "pick", "(IIII)I"⟩ : MethodName)) hown (mvT hZ (hw _ (List.mem_of_getElem? (i := 5) rfl))) (mvT hZ (hw _ (List.mem_of_getElem? (i := 6) rfl))) (mvT hZ (hw _ (List.mem_of_getElem? (i := 7) rfl))) (mvT hZ (hw _ (List.mem_of_getElem? (i := 8) rfl))) (by decide) (backOf (W := 1) (rm2 l Z a0 hw [] p1 p2 p3 (Int32.ofNat d2) h0 n0 Z0) hZ (hw _ (List.mem_of_getElem? (i := 8) rfl)) (hw _ (List.mem_of_getElem? (i := 7) rfl)) (by decide) (by decide)) (g := (mkF m 197 #[.val (.int p1), .val (.int p2), .val (.int p3), .val (.int p4), .val (.int p5), .val (.int (3 : Int32)), .val (.int (Int32.ofNat d0)), .val (.int (Int32.ofNat d1)), .val (.int (Int32.ofNat d2)), .val (.ref o1), .val (.ref o2), .val (.ref o3)] [(.int (Int32.ofNat d2)), (.int p3), (.int p2), (.int p1), (.int (own_N p1 p2 p3 d2))])) rfl (by rw [hml]; rfl) (argsL := [(.int p1), (.int p2), (.int p3), (.int (Int32.ofNat d2))]) (rest := [(.int (own_N p1 p2 p3 d2))]) (lenOf pd_0_pick rfl) rfl (by show 2 * 0 + _ ≤ _; exact Nat.le_of_eq rfl) (hb hby at_197) (fun _ _ => ⟨rfl, e2, (by decide : 3 + 0 ≤ _), (by decide : 9 + 0 ≤ _)⟩)
  dsimp only [Pt.U, Pt.locs, Pt.cells, Pt.slots] at X3 l3 y3 z3 st3 hQ3
  subst l3 y3 z3
  obtain ⟨rfl, N3q, e3⟩ := hQ3
  have N3 := Fr.app N2 N3q
  refine ⟨T3, _, X3, e3, N3, fun target kt => ?_⟩
  show Steps p.tables e below (T0.setTop (mkF m 106 #[.val (.int p1), .val (.int p2), .val (.int p3), .val (.int p4), .val (.int p5), .val (.int (3 : Int32)), .val (.int (Int32.ofNat d0)), .val (.int (Int32.ofNat d1)), .val (.int (Int32.ofNat d2)), .val (.ref o1), .val (.ref o2), .unset] [(.ref o3)])) _
  refine XS.astore X0.here hx rfl (hb hby at_106) rfl rfl (l' := #[.val (.int p1), .val (.int p2), .val (.int p3), .val (.int p4), .val (.int p5), .val (.int (3 : Int32)), .val (.int (Int32.ofNat d0)), .val (.int (Int32.ofNat d1)), .val (.int (Int32.ofNat d2)), .val (.ref o1), .val (.ref o2), .val (.ref o3)]) rfl ?_
  show Steps p.tables e below (T0.setTop (mkF m 108 #[.val (.int p1), .val (.int p2), .val (.int p3), .val (.int p4), .val (.int p5), .val (.int (3 : Int32)), .val (.int (Int32.ofNat d0)), .val (.int (Int32.ofNat d1)), .val (.int (Int32.ofNat d2)), .val (.ref o1), .val (.ref o2), .val (.ref o3)] [])) _
  refine XS.aload X0.here hx rfl (hb hby at_108) rfl rfl ?_
  show Steps p.tables e below (T0.setTop (mkF m 110 #[.val (.int p1), .val (.int p2), .val (.int p3), .val (.int p4), .val (.int p5), .val (.int (3 : Int32)), .val (.int (Int32.ofNat d0)), .val (.int (Int32.ofNat d1)), .val (.int (Int32.ofNat d2)), .val (.ref o1), .val (.ref o2), .val (.ref o3)] [(.ref o3)])) _
  refine XS.ifnullNo X0.here hx rfl (hb hby at_110) rfl ?_
  show Steps p.tables e below (T0.setTop (mkF m 113 #[.val (.int p1), .val (.int p2), .val (.int p3), .val (.int p4), .val (.int p5), .val (.int (3 : Int32)), .val (.int (Int32.ofNat d0)), .val (.int (Int32.ofNat d1)), .val (.int (Int32.ofNat d2)), .val (.ref o1), .val (.ref o2), .val (.ref o3)] [])) _
  refine XS.aload X0.here hx rfl (hb hby at_113) rfl rfl ?_
  show Steps p.tables e below (T0.setTop (mkF m 115 #[.val (.int p1), .val (.int p2), .val (.int p3), .val (.int p4), .val (.int p5), .val (.int (3 : Int32)), .val (.int (Int32.ofNat d0)), .val (.int (Int32.ofNat d1)), .val (.int (Int32.ofNat d2)), .val (.ref o1), .val (.ref o2), .val (.ref o3)] [(.ref o3)])) _
  refine X0.arraylength hx (by rw [e0]; exact ArO.1) (State.isArrayOf_alike hZ.alike ArO.2.1) (g := (mkF m 115 #[.val (.int p1), .val (.int p2), .val (.int p3), .val (.int p4), .val (.int p5), .val (.int (3 : Int32)), .val (.int (Int32.ofNat d0)), .val (.int (Int32.ofNat d1)), .val (.int (Int32.ofNat d2)), .val (.ref o1), .val (.ref o2), .val (.ref o3)] [(.ref o3)])) rfl rfl (hb hby at_115) _ ?_
  rw [len_of SO' (by decide)]
  show Steps p.tables e below (T0.setTop (mkF m 116 #[.val (.int p1), .val (.int p2), .val (.int p3), .val (.int p4), .val (.int p5), .val (.int (3 : Int32)), .val (.int (Int32.ofNat d0)), .val (.int (Int32.ofNat d1)), .val (.int (Int32.ofNat d2)), .val (.ref o1), .val (.ref o2), .val (.ref o3)] [(.int (3 : Int32))])) _
  refine XS.iload X0.here hx rfl (hb hby at_116) rfl ?_
  show Steps p.tables e below (T0.setTop (mkF m 118 #[.val (.int p1), .val (.int p2), .val (.int p3), .val (.int p4), .val (.int p5), .val (.int (3 : Int32)), .val (.int (Int32.ofNat d0)), .val (.int (Int32.ofNat d1)), .val (.int (Int32.ofNat d2)), .val (.ref o1), .val (.ref o2), .val (.ref o3)] [(.int (3 : Int32)), (.int (3 : Int32))])) _
  refine XS.icmpNo X0.here hx rfl (hb hby at_118) rfl (teq (rfl : (3 : Int32) = (3 : Int32))).2 ?_
  show Steps p.tables e below (T0.setTop (mkF m 121 #[.val (.int p1), .val (.int p2), .val (.int p3), .val (.int p4), .val (.int p5), .val (.int (3 : Int32)), .val (.int (Int32.ofNat d0)), .val (.int (Int32.ofNat d1)), .val (.int (Int32.ofNat d2)), .val (.ref o1), .val (.ref o2), .val (.ref o3)] [])) _
  refine XS.aload X0.here hx rfl (hb hby at_121) rfl rfl ?_
  show Steps p.tables e below (T0.setTop (mkF m 123 #[.val (.int p1), .val (.int p2), .val (.int p3), .val (.int p4), .val (.int p5), .val (.int (3 : Int32)), .val (.int (Int32.ofNat d0)), .val (.int (Int32.ofNat d1)), .val (.int (Int32.ofNat d2)), .val (.ref o1), .val (.ref o2), .val (.ref o3)] [(.ref o3)])) _
  refine XS.aload X0.here hx rfl (hb hby at_123) rfl rfl ?_
  show Steps p.tables e below (T0.setTop (mkF m 125 #[.val (.int p1), .val (.int p2), .val (.int p3), .val (.int p4), .val (.int p5), .val (.int (3 : Int32)), .val (.int (Int32.ofNat d0)), .val (.int (Int32.ofNat d1)), .val (.int (Int32.ofNat d2)), .val (.ref o1), .val (.ref o2), .val (.ref o3)] [(.ref o1), (.ref o3)])) _
  refine Jvm.RoadKit.acmp (g := (mkF m 125 #[.val (.int p1), .val (.int p2), .val (.int p3), .val (.int p4), .val (.int p5), .val (.int (3 : Int32)), .val (.int (Int32.ofNat d0)), .val (.int (Int32.ofNat d1)), .val (.int (Int32.ofNat d2)), .val (.ref o1), .val (.ref o2), .val (.ref o3)] [(.ref o1), (.ref o3)])) X0 hx rfl rfl rfl (pc0 := 125) (pc' := 128) (same := false) rfl (hb hby at_125) rfl (decide_eq_false fun q => ne1 (Value.ref.inj q)) (by decide) (by decide) ?_
  show Steps p.tables e below (T0.setTop (mkF m 128 #[.val (.int p1), .val (.int p2), .val (.int p3), .val (.int p4), .val (.int p5), .val (.int (3 : Int32)), .val (.int (Int32.ofNat d0)), .val (.int (Int32.ofNat d1)), .val (.int (Int32.ofNat d2)), .val (.ref o1), .val (.ref o2), .val (.ref o3)] [])) _
  refine XS.aload X0.here hx rfl (hb hby at_128) rfl rfl ?_
  show Steps p.tables e below (T0.setTop (mkF m 130 #[.val (.int p1), .val (.int p2), .val (.int p3), .val (.int p4), .val (.int p5), .val (.int (3 : Int32)), .val (.int (Int32.ofNat d0)), .val (.int (Int32.ofNat d1)), .val (.int (Int32.ofNat d2)), .val (.ref o1), .val (.ref o2), .val (.ref o3)] [(.ref o3)])) _
  refine XS.aload X0.here hx rfl (hb hby at_130) rfl rfl ?_
  show Steps p.tables e below (T0.setTop (mkF m 132 #[.val (.int p1), .val (.int p2), .val (.int p3), .val (.int p4), .val (.int p5), .val (.int (3 : Int32)), .val (.int (Int32.ofNat d0)), .val (.int (Int32.ofNat d1)), .val (.int (Int32.ofNat d2)), .val (.ref o1), .val (.ref o2), .val (.ref o3)] [(.ref o2), (.ref o3)])) _
  refine Jvm.RoadKit.acmp (g := (mkF m 132 #[.val (.int p1), .val (.int p2), .val (.int p3), .val (.int p4), .val (.int p5), .val (.int (3 : Int32)), .val (.int (Int32.ofNat d0)), .val (.int (Int32.ofNat d1)), .val (.int (Int32.ofNat d2)), .val (.ref o1), .val (.ref o2), .val (.ref o3)] [(.ref o2), (.ref o3)])) X0 hx rfl rfl rfl (pc0 := 132) (pc' := 137) (same := false) rfl (hb hby at_132) rfl (decide_eq_false fun q => ne2 (Value.ref.inj q)) (by decide) (by decide) ?_
  show Steps p.tables e below (T0.setTop (mkF m 137 #[.val (.int p1), .val (.int p2), .val (.int p3), .val (.int p4), .val (.int p5), .val (.int (3 : Int32)), .val (.int (Int32.ofNat d0)), .val (.int (Int32.ofNat d1)), .val (.int (Int32.ofNat d2)), .val (.ref o1), .val (.ref o2), .val (.ref o3)] [])) _
  refine XS.iload X0.here hx rfl (hb hby at_137) rfl ?_
  show Steps p.tables e below (T0.setTop (mkF m 139 #[.val (.int p1), .val (.int p2), .val (.int p3), .val (.int p4), .val (.int p5), .val (.int (3 : Int32)), .val (.int (Int32.ofNat d0)), .val (.int (Int32.ofNat d1)), .val (.int (Int32.ofNat d2)), .val (.ref o1), .val (.ref o2), .val (.ref o3)] [(.int (3 : Int32))])) _
  refine XS.ifNo X0.here hx rfl (hb hby at_139) rfl ((if0 _ _).trans (tlt (by decide)).2.2.2) ?_
  show Steps p.tables e below (T0.setTop (mkF m 142 #[.val (.int p1), .val (.int p2), .val (.int p3), .val (.int p4), .val (.int p5), .val (.int (3 : Int32)), .val (.int (Int32.ofNat d0)), .val (.int (Int32.ofNat d1)), .val (.int (Int32.ofNat d2)), .val (.ref o1), .val (.ref o2), .val (.ref o3)] [])) _
  refine XS.aload X0.here hx rfl (hb hby at_142) rfl rfl ?_
  show Steps p.tables e below (T0.setTop (mkF m 144 #[.val (.int p1), .val (.int p2), .val (.int p3), .val (.int p4), .val (.int p5), .val (.int (3 : Int32)), .val (.int (Int32.ofNat d0)), .val (.int (Int32.ofNat d1)), .val (.int (Int32.ofNat d2)), .val (.ref o1), .val (.ref o2), .val (.ref o3)] [(.ref o3)])) _
  refine XS.iconst X0.here hx rfl (hb hby at_144) ?_
  show Steps p.tables e below (T0.setTop (mkF m 145 #[.val (.int p1), .val (.int p2), .val (.int p3), .val (.int p4), .val (.int p5), .val (.int (3 : Int32)), .val (.int (Int32.ofNat d0)), .val (.int (Int32.ofNat d1)), .val (.int (Int32.ofNat d2)), .val (.ref o1), .val (.ref o2), .val (.ref o3)] [(.int (0 : Int32)), (.ref o3)])) _
  refine X0.iaload hx (j := (0 : Int32)) (v := (.int (own_N p1 p2 p3 d0))) (by rw [e0]; exact ArO.1) (State.isArrayOf_alike hZ.alike ArO.2.1) ArO.2.2 (by rw [SO]; decide) (show cO.slots[(0 : Int32).toNatClampNeg]? = _ from HO 0 (by decide)) (g := (mkF m 145 #[.val (.int p1), .val (.int p2), .val (.int p3), .val (.int p4), .val (.int p5), .val (.int (3 : Int32)), .val (.int (Int32.ofNat d0)), .val (.int (Int32.ofNat d1)), .val (.int (Int32.ofNat d2)), .val (.ref o1), .val (.ref o2), .val (.ref o3)] [(.int (0 : Int32)), (.ref o3)])) rfl rfl (hb hby at_145) _ ?_
  show Steps p.tables e below (T0.setTop (mkF m 146 #[.val (.int p1), .val (.int p2), .val (.int p3), .val (.int p4), .val (.int p5), .val (.int (3 : Int32)), .val (.int (Int32.ofNat d0)), .val (.int (Int32.ofNat d1)), .val (.int (Int32.ofNat d2)), .val (.ref o1), .val (.ref o2), .val (.ref o3)] [(.int (own_N p1 p2 p3 d0))])) _
  refine XS.iloadN X0.here hx rfl (hb hby at_146) rfl ?_
  show Steps p.tables e below (T0.setTop (mkF m 147 #[.val (.int p1), .val (.int p2), .val (.int p3), .val (.int p4), .val (.int p5), .val (.int (3 : Int32)), .val (.int (Int32.ofNat d0)), .val (.int (Int32.ofNat d1)), .val (.int (Int32.ofNat d2)), .val (.ref o1), .val (.ref o2), .val (.ref o3)] [(.int p1), (.int (own_N p1 p2 p3 d0))])) _
  refine XS.iloadN X0.here hx rfl (hb hby at_147) rfl ?_
  show Steps p.tables e below (T0.setTop (mkF m 148 #[.val (.int p1), .val (.int p2), .val (.int p3), .val (.int p4), .val (.int p5), .val (.int (3 : Int32)), .val (.int (Int32.ofNat d0)), .val (.int (Int32.ofNat d1)), .val (.int (Int32.ofNat d2)), .val (.ref o1), .val (.ref o2), .val (.ref o3)] [(.int p2), (.int p1), (.int (own_N p1 p2 p3 d0))])) _
  refine XS.iloadN X0.here hx rfl (hb hby at_148) rfl ?_
  show Steps p.tables e below (T0.setTop (mkF m 149 #[.val (.int p1), .val (.int p2), .val (.int p3), .val (.int p4), .val (.int p5), .val (.int (3 : Int32)), .val (.int (Int32.ofNat d0)), .val (.int (Int32.ofNat d1)), .val (.int (Int32.ofNat d2)), .val (.ref o1), .val (.ref o2), .val (.ref o3)] [(.int p3), (.int p2), (.int p1), (.int (own_N p1 p2 p3 d0))])) _
  refine XS.iload X0.here hx rfl (hb hby at_149) rfl ?_
  show Steps p.tables e below (T0.setTop (mkF m 151 #[.val (.int p1), .val (.int p2), .val (.int p3), .val (.int p4), .val (.int p5), .val (.int (3 : Int32)), .val (.int (Int32.ofNat d0)), .val (.int (Int32.ofNat d1)), .val (.int (Int32.ofNat d2)), .val (.ref o1), .val (.ref o2), .val (.ref o3)] [(.int (Int32.ofNat d0)), (.int p3), (.int p2), (.int p1), (.int (own_N p1 p2 p3 d0))])) _
  refine st1 _ ?_
  show Steps p.tables e below (T1.setTop (mkF m 154 #[.val (.int p1), .val (.int p2), .val (.int p3), .val (.int p4), .val (.int p5), .val (.int (3 : Int32)), .val (.int (Int32.ofNat d0)), .val (.int (Int32.ofNat d1)), .val (.int (Int32.ofNat d2)), .val (.ref o1), .val (.ref o2), .val (.ref o3)] [(.int (own_pick p1 p2 p3 (Int32.ofNat d0))), (.int (own_N p1 p2 p3 d0))])) _
  refine XS.icmpYes X1.here hx rfl (pc0 := 154) (pc' := 159) rfl (hb hby at_154) rfl (teq (own_pk p1 p2 p3 hd0)).1 (by decide) (by decide) ?_
  show Steps p.tables e below (T1.setTop (mkF m 159 #[.val (.int p1), .val (.int p2), .val (.int p3), .val (.int p4), .val (.int p5), .val (.int (3 : Int32)), .val (.int (Int32.ofNat d0)), .val (.int (Int32.ofNat d1)), .val (.int (Int32.ofNat d2)), .val (.ref o1), .val (.ref o2), .val (.ref o3)] [])) _
  refine XS.iload X1.here hx rfl (hb hby at_159) rfl ?_
  show Steps p.tables e below (T1.setTop (mkF m 161 #[.val (.int p1), .val (.int p2), .val (.int p3), .val (.int p4), .val (.int p5), .val (.int (3 : Int32)), .val (.int (Int32.ofNat d0)), .val (.int (Int32.ofNat d1)), .val (.int (Int32.ofNat d2)), .val (.ref o1), .val (.ref o2), .val (.ref o3)] [(.int (3 : Int32))])) _
  refine XS.iconst X1.here hx rfl (hb hby at_161) ?_
  show Steps p.tables e below (T1.setTop (mkF m 162 #[.val (.int p1), .val (.int p2), .val (.int p3), .val (.int p4), .val (.int p5), .val (.int (3 : Int32)), .val (.int (Int32.ofNat d0)), .val (.int (Int32.ofNat d1)), .val (.int (Int32.ofNat d2)), .val (.ref o1), .val (.ref o2), .val (.ref o3)] [(.int (1 : Int32)), (.int (3 : Int32))])) _
  refine XS.icmpNo X1.here hx rfl (hb hby at_162) rfl (tlt (by decide)).2.2.2 ?_
  show Steps p.tables e below (T1.setTop (mkF m 165 #[.val (.int p1), .val (.int p2), .val (.int p3), .val (.int p4), .val (.int p5), .val (.int (3 : Int32)), .val (.int (Int32.ofNat d0)), .val (.int (Int32.ofNat d1)), .val (.int (Int32.ofNat d2)), .val (.ref o1), .val (.ref o2), .val (.ref o3)] [])) _
  refine XS.aload X1.here hx rfl (hb hby at_165) rfl rfl ?_
  show Steps p.tables e below (T1.setTop (mkF m 167 #[.val (.int p1), .val (.int p2), .val (.int p3), .val (.int p4), .val (.int p5), .val (.int (3 : Int32)), .val (.int (Int32.ofNat d0)), .val (.int (Int32.ofNat d1)), .val (.int (Int32.ofNat d2)), .val (.ref o1), .val (.ref o2), .val (.ref o3)] [(.ref o3)])) _
  refine XS.iconst X1.here hx rfl (hb hby at_167) ?_
  show Steps p.tables e below (T1.setTop (mkF m 168 #[.val (.int p1), .val (.int p2), .val (.int p3), .val (.int p4), .val (.int p5), .val (.int (3 : Int32)), .val (.int (Int32.ofNat d0)), .val (.int (Int32.ofNat d1)), .val (.int (Int32.ofNat d2)), .val (.ref o1), .val (.ref o2), .val (.ref o3)] [(.int (1 : Int32)), (.ref o3)])) _
  refine X1.iaload hx (j := (1 : Int32)) (v := (.int (own_N p1 p2 p3 d1))) (by rw [e1]; exact ArO.1) (State.isArrayOf_alike hZ.alike ArO.2.1) ArO.2.2 (by rw [SO]; decide) (show cO.slots[(1 : Int32).toNatClampNeg]? = _ from HO 1 (by decide)) (g := (mkF m 168 #[.val (.int p1), .val (.int p2), .val (.int p3), .val (.int p4), .val (.int p5), .val (.int (3 : Int32)), .val (.int (Int32.ofNat d0)), .val (.int (Int32.ofNat d1)), .val (.int (Int32.ofNat d2)), .val (.ref o1), .val (.ref o2), .val (.ref o3)] [(.int (1 : Int32)), (.ref o3)])) rfl rfl (hb hby at_168) _ ?_
  show Steps p.tables e below (T1.setTop (mkF m 169 #[.val (.int p1), .val (.int p2), .val (.int p3), .val (.int p4), .val (.int p5), .val (.int (3 : Int32)), .val (.int (Int32.ofNat d0)), .val (.int (Int32.ofNat d1)), .val (.int (Int32.ofNat d2)), .val (.ref o1), .val (.ref o2), .val (.ref o3)] [(.int (own_N p1 p2 p3 d1))])) _
  refine XS.iloadN X1.here hx rfl (hb hby at_169) rfl ?_
  show Steps p.tables e below (T1.setTop (mkF m 170 #[.val (.int p1), .val (.int p2), .val (.int p3), .val (.int p4), .val (.int p5), .val (.int (3 : Int32)), .val (.int (Int32.ofNat d0)), .val (.int (Int32.ofNat d1)), .val (.int (Int32.ofNat d2)), .val (.ref o1), .val (.ref o2), .val (.ref o3)] [(.int p1), (.int (own_N p1 p2 p3 d1))])) _
  refine XS.iloadN X1.here hx rfl (hb hby at_170) rfl ?_
  show Steps p.tables e below (T1.setTop (mkF m 171 #[.val (.int p1), .val (.int p2), .val (.int p3), .val (.int p4), .val (.int p5), .val (.int (3 : Int32)), .val (.int (Int32.ofNat d0)), .val (.int (Int32.ofNat d1)), .val (.int (Int32.ofNat d2)), .val (.ref o1), .val (.ref o2), .val (.ref o3)] [(.int p2), (.int p1), (.int (own_N p1 p2 p3 d1))])) _
  refine XS.iloadN X1.here hx rfl (hb hby at_171) rfl ?_
  show Steps p.tables e below (T1.setTop (mkF m 172 #[.val (.int p1), .val (.int p2), .val (.int p3), .val (.int p4), .val (.int p5), .val (.int (3 : Int32)), .val (.int (Int32.ofNat d0)), .val (.int (Int32.ofNat d1)), .val (.int (Int32.ofNat d2)), .val (.ref o1), .val (.ref o2), .val (.ref o3)] [(.int p3), (.int p2), (.int p1), (.int (own_N p1 p2 p3 d1))])) _
  refine XS.iload X1.here hx rfl (hb hby at_172) rfl ?_
  show Steps p.tables e below (T1.setTop (mkF m 174 #[.val (.int p1), .val (.int p2), .val (.int p3), .val (.int p4), .val (.int p5), .val (.int (3 : Int32)), .val (.int (Int32.ofNat d0)), .val (.int (Int32.ofNat d1)), .val (.int (Int32.ofNat d2)), .val (.ref o1), .val (.ref o2), .val (.ref o3)] [(.int (Int32.ofNat d1)), (.int p3), (.int p2), (.int p1), (.int (own_N p1 p2 p3 d1))])) _
  refine st2 _ ?_
  show Steps p.tables e below (T2.setTop (mkF m 177 #[.val (.int p1), .val (.int p2), .val (.int p3), .val (.int p4), .val (.int p5), .val (.int (3 : Int32)), .val (.int (Int32.ofNat d0)), .val (.int (Int32.ofNat d1)), .val (.int (Int32.ofNat d2)), .val (.ref o1), .val (.ref o2), .val (.ref o3)] [(.int (own_pick p1 p2 p3 (Int32.ofNat d1))), (.int (own_N p1 p2 p3 d1))])) _
  refine XS.icmpYes X2.here hx rfl (pc0 := 177) (pc' := 182) rfl (hb hby at_177) rfl (teq (own_pk p1 p2 p3 hd1)).1 (by decide) (by decide) ?_
  show Steps p.tables e below (T2.setTop (mkF m 182 #[.val (.int p1), .val (.int p2), .val (.int p3), .val (.int p4), .val (.int p5), .val (.int (3 : Int32)), .val (.int (Int32.ofNat d0)), .val (.int (Int32.ofNat d1)), .val (.int (Int32.ofNat d2)), .val (.ref o1), .val (.ref o2), .val (.ref o3)] [])) _
  refine XS.iload X2.here hx rfl (hb hby at_182) rfl ?_
  show Steps p.tables e below (T2.setTop (mkF m 184 #[.val (.int p1), .val (.int p2), .val (.int p3), .val (.int p4), .val (.int p5), .val (.int (3 : Int32)), .val (.int (Int32.ofNat d0)), .val (.int (Int32.ofNat d1)), .val (.int (Int32.ofNat d2)), .val (.ref o1), .val (.ref o2), .val (.ref o3)] [(.int (3 : Int32))])) _
  refine XS.iconst X2.here hx rfl (hb hby at_184) ?_
  show Steps p.tables e below (T2.setTop (mkF m 185 #[.val (.int p1), .val (.int p2), .val (.int p3), .val (.int p4), .val (.int p5), .val (.int (3 : Int32)), .val (.int (Int32.ofNat d0)), .val (.int (Int32.ofNat d1)), .val (.int (Int32.ofNat d2)), .val (.ref o1), .val (.ref o2), .val (.ref o3)] [(.int (2 : Int32)), (.int (3 : Int32))])) _
  refine XS.icmpNo X2.here hx rfl (hb hby at_185) rfl (tlt (by decide)).2.2.2 ?_
  show Steps p.tables e below (T2.setTop (mkF m 188 #[.val (.int p1), .val (.int p2), .val (.int p3), .val (.int p4), .val (.int p5), .val (.int (3 : Int32)), .val (.int (Int32.ofNat d0)), .val (.int (Int32.ofNat d1)), .val (.int (Int32.ofNat d2)), .val (.ref o1), .val (.ref o2), .val (.ref o3)] [])) _
  refine XS.aload X2.here hx rfl (hb hby at_188) rfl rfl ?_
  show Steps p.tables e below (T2.setTop (mkF m 190 #[.val (.int p1), .val (.int p2), .val (.int p3), .val (.int p4), .val (.int p5), .val (.int (3 : Int32)), .val (.int (Int32.ofNat d0)), .val (.int (Int32.ofNat d1)), .val (.int (Int32.ofNat d2)), .val (.ref o1), .val (.ref o2), .val (.ref o3)] [(.ref o3)])) _
  refine XS.iconst X2.here hx rfl (hb hby at_190) ?_
  show Steps p.tables e below (T2.setTop (mkF m 191 #[.val (.int p1), .val (.int p2), .val (.int p3), .val (.int p4), .val (.int p5), .val (.int (3 : Int32)), .val (.int (Int32.ofNat d0)), .val (.int (Int32.ofNat d1)), .val (.int (Int32.ofNat d2)), .val (.ref o1), .val (.ref o2), .val (.ref o3)] [(.int (2 : Int32)), (.ref o3)])) _
  refine X2.iaload hx (j := (2 : Int32)) (v := (.int (own_N p1 p2 p3 d2))) (by rw [e2]; exact ArO.1) (State.isArrayOf_alike hZ.alike ArO.2.1) ArO.2.2 (by rw [SO]; decide) (show cO.slots[(2 : Int32).toNatClampNeg]? = _ from HO 2 (by decide)) (g := (mkF m 191 #[.val (.int p1), .val (.int p2), .val (.int p3), .val (.int p4), .val (.int p5), .val (.int (3 : Int32)), .val (.int (Int32.ofNat d0)), .val (.int (Int32.ofNat d1)), .val (.int (Int32.ofNat d2)), .val (.ref o1), .val (.ref o2), .val (.ref o3)] [(.int (2 : Int32)), (.ref o3)])) rfl rfl (hb hby at_191) _ ?_
  show Steps p.tables e below (T2.setTop (mkF m 192 #[.val (.int p1), .val (.int p2), .val (.int p3), .val (.int p4), .val (.int p5), .val (.int (3 : Int32)), .val (.int (Int32.ofNat d0)), .val (.int (Int32.ofNat d1)), .val (.int (Int32.ofNat d2)), .val (.ref o1), .val (.ref o2), .val (.ref o3)] [(.int (own_N p1 p2 p3 d2))])) _
  refine XS.iloadN X2.here hx rfl (hb hby at_192) rfl ?_
  show Steps p.tables e below (T2.setTop (mkF m 193 #[.val (.int p1), .val (.int p2), .val (.int p3), .val (.int p4), .val (.int p5), .val (.int (3 : Int32)), .val (.int (Int32.ofNat d0)), .val (.int (Int32.ofNat d1)), .val (.int (Int32.ofNat d2)), .val (.ref o1), .val (.ref o2), .val (.ref o3)] [(.int p1), (.int (own_N p1 p2 p3 d2))])) _
  refine XS.iloadN X2.here hx rfl (hb hby at_193) rfl ?_
  show Steps p.tables e below (T2.setTop (mkF m 194 #[.val (.int p1), .val (.int p2), .val (.int p3), .val (.int p4), .val (.int p5), .val (.int (3 : Int32)), .val (.int (Int32.ofNat d0)), .val (.int (Int32.ofNat d1)), .val (.int (Int32.ofNat d2)), .val (.ref o1), .val (.ref o2), .val (.ref o3)] [(.int p2), (.int p1), (.int (own_N p1 p2 p3 d2))])) _
  refine XS.iloadN X2.here hx rfl (hb hby at_194) rfl ?_
  show Steps p.tables e below (T2.setTop (mkF m 195 #[.val (.int p1), .val (.int p2), .val (.int p3), .val (.int p4), .val (.int p5), .val (.int (3 : Int32)), .val (.int (Int32.ofNat d0)), .val (.int (Int32.ofNat d1)), .val (.int (Int32.ofNat d2)), .val (.ref o1), .val (.ref o2), .val (.ref o3)] [(.int p3), (.int p2), (.int p1), (.int (own_N p1 p2 p3 d2))])) _
  refine XS.iload X2.here hx rfl (hb hby at_195) rfl ?_
  show Steps p.tables e below (T2.setTop (mkF m 197 #[.val (.int p1), .val (.int p2), .val (.int p3), .val (.int p4), .val (.int p5), .val (.int (3 : Int32)), .val (.int (Int32.ofNat d0)), .val (.int (Int32.ofNat d1)), .val (.int (Int32.ofNat d2)), .val (.ref o1), .val (.ref o2), .val (.ref o3)] [(.int (Int32.ofNat d2)), (.int p3), (.int p2), (.int p1), (.int (own_N p1 p2 p3 d2))])) _
  refine st3 _ ?_
  show Steps p.tables e below (T3.setTop (mkF m 200 #[.val (.int p1), .val (.int p2), .val (.int p3), .val (.int p4), .val (.int p5), .val (.int (3 : Int32)), .val (.int (Int32.ofNat d0)), .val (.int (Int32.ofNat d1)), .val (.int (Int32.ofNat d2)), .val (.ref o1), .val (.ref o2), .val (.ref o3)] [(.int (own_pick p1 p2 p3 (Int32.ofNat d2))), (.int (own_N p1 p2 p3 d2))])) _
  refine XS.icmpYes X3.here hx rfl (pc0 := 200) (pc' := 205) rfl (hb hby at_200) rfl (teq (own_pk p1 p2 p3 hd2)).1 (by decide) (by decide) ?_
  show Steps p.tables e below (T3.setTop (mkF m 205 #[.val (.int p1), .val (.int p2), .val (.int p3), .val (.int p4), .val (.int p5), .val (.int (3 : Int32)), .val (.int (Int32.ofNat d0)), .val (.int (Int32.ofNat d1)), .val (.int (Int32.ofNat d2)), .val (.ref o1), .val (.ref o2), .val (.ref o3)] [])) _
  refine XS.aload X3.here hx rfl (hb hby at_205) rfl rfl ?_
  show Steps p.tables e below (T3.setTop (mkF m 207 #[.val (.int p1), .val (.int p2), .val (.int p3), .val (.int p4), .val (.int p5), .val (.int (3 : Int32)), .val (.int (Int32.ofNat d0)), .val (.int (Int32.ofNat d1)), .val (.int (Int32.ofNat d2)), .val (.ref o1), .val (.ref o2), .val (.ref o3)] [(.ref o1)])) _
  refine XS.iconst X3.here hx rfl (hb hby at_207) ?_
  show Steps p.tables e below (T3.setTop (mkF m 208 #[.val (.int p1), .val (.int p2), .val (.int p3), .val (.int p4), .val (.int p5), .val (.int (3 : Int32)), .val (.int (Int32.ofNat d0)), .val (.int (Int32.ofNat d1)), .val (.int (Int32.ofNat d2)), .val (.ref o1), .val (.ref o2), .val (.ref o3)] [(.int (0 : Int32)), (.ref o1)])) _
  refine X3.iaload hx (j := (0 : Int32)) (v := (.int p1)) (by rw [e3]; exact ArN.1) (State.isArrayOf_alike hZ.alike ArN.2.1) ArN.2.2 (by rw [SN]; decide) (show cN.slots[(0 : Int32).toNatClampNeg]? = _ from HN 0 (by decide)) (g := (mkF m 208 #[.val (.int p1), .val (.int p2), .val (.int p3), .val (.int p4), .val (.int p5), .val (.int (3 : Int32)), .val (.int (Int32.ofNat d0)), .val (.int (Int32.ofNat d1)), .val (.int (Int32.ofNat d2)), .val (.ref o1), .val (.ref o2), .val (.ref o3)] [(.int (0 : Int32)), (.ref o1)])) rfl rfl (hb hby at_208) _ ?_
  show Steps p.tables e below (T3.setTop (mkF m 209 #[.val (.int p1), .val (.int p2), .val (.int p3), .val (.int p4), .val (.int p5), .val (.int (3 : Int32)), .val (.int (Int32.ofNat d0)), .val (.int (Int32.ofNat d1)), .val (.int (Int32.ofNat d2)), .val (.ref o1), .val (.ref o2), .val (.ref o3)] [(.int p1)])) _
  refine XS.iloadN X3.here hx rfl (hb hby at_209) rfl ?_
  show Steps p.tables e below (T3.setTop (mkF m 210 #[.val (.int p1), .val (.int p2), .val (.int p3), .val (.int p4), .val (.int p5), .val (.int (3 : Int32)), .val (.int (Int32.ofNat d0)), .val (.int (Int32.ofNat d1)), .val (.int (Int32.ofNat d2)), .val (.ref o1), .val (.ref o2), .val (.ref o3)] [(.int p1), (.int p1)])) _
  refine XS.icmpNo X3.here hx rfl (hb hby at_210) rfl (teq (rfl : p1 = p1)).2 ?_
  show Steps p.tables e below (T3.setTop (mkF m 213 #[.val (.int p1), .val (.int p2), .val (.int p3), .val (.int p4), .val (.int p5), .val (.int (3 : Int32)), .val (.int (Int32.ofNat d0)), .val (.int (Int32.ofNat d1)), .val (.int (Int32.ofNat d2)), .val (.ref o1), .val (.ref o2), .val (.ref o3)] [])) _
  refine XS.aload X3.here hx rfl (hb hby at_213) rfl rfl ?_
  show Steps p.tables e below (T3.setTop (mkF m 215 #[.val (.int p1), .val (.int p2), .val (.int p3), .val (.int p4), .val (.int p5), .val (.int (3 : Int32)), .val (.int (Int32.ofNat d0)), .val (.int (Int32.ofNat d1)), .val (.int (Int32.ofNat d2)), .val (.ref o1), .val (.ref o2), .val (.ref o3)] [(.ref o1)])) _
  refine XS.iconst X3.here hx rfl (hb hby at_215) ?_
  show Steps p.tables e below (T3.setTop (mkF m 216 #[.val (.int p1), .val (.int p2), .val (.int p3), .val (.int p4), .val (.int p5), .val (.int (3 : Int32)), .val (.int (Int32.ofNat d0)), .val (.int (Int32.ofNat d1)), .val (.int (Int32.ofNat d2)), .val (.ref o1), .val (.ref o2), .val (.ref o3)] [(.int (1 : Int32)), (.ref o1)])) _
  refine X3.iaload hx (j := (1 : Int32)) (v := (.int p2)) (by rw [e3]; exact ArN.1) (State.isArrayOf_alike hZ.alike ArN.2.1) ArN.2.2 (by rw [SN]; decide) (show cN.slots[(1 : Int32).toNatClampNeg]? = _ from HN 1 (by decide)) (g := (mkF m 216 #[.val (.int p1), .val (.int p2), .val (.int p3), .val (.int p4), .val (.int p5), .val (.int (3 : Int32)), .val (.int (Int32.ofNat d0)), .val (.int (Int32.ofNat d1)), .val (.int (Int32.ofNat d2)), .val (.ref o1), .val (.ref o2), .val (.ref o3)] [(.int (1 : Int32)), (.ref o1)])) rfl rfl (hb hby at_216) _ ?_
  show Steps p.tables e below (T3.setTop (mkF m 217 #[.val (.int p1), .val (.int p2), .val (.int p3), .val (.int p4), .val (.int p5), .val (.int (3 : Int32)), .val (.int (Int32.ofNat d0)), .val (.int (Int32.ofNat d1)), .val (.int (Int32.ofNat d2)), .val (.ref o1), .val (.ref o2), .val (.ref o3)] [(.int p2)])) _
  refine XS.iloadN X3.here hx rfl (hb hby at_217) rfl ?_
  show Steps p.tables e below (T3.setTop (mkF m 218 #[.val (.int p1), .val (.int p2), .val (.int p3), .val (.int p4), .val (.int p5), .val (.int (3 : Int32)), .val (.int (Int32.ofNat d0)), .val (.int (Int32.ofNat d1)), .val (.int (Int32.ofNat d2)), .val (.ref o1), .val (.ref o2), .val (.ref o3)] [(.int p2), (.int p2)])) _
  refine XS.icmpNo X3.here hx rfl (hb hby at_218) rfl (teq (rfl : p2 = p2)).2 ?_
  show Steps p.tables e below (T3.setTop (mkF m 221 #[.val (.int p1), .val (.int p2), .val (.int p3), .val (.int p4), .val (.int p5), .val (.int (3 : Int32)), .val (.int (Int32.ofNat d0)), .val (.int (Int32.ofNat d1)), .val (.int (Int32.ofNat d2)), .val (.ref o1), .val (.ref o2), .val (.ref o3)] [])) _
  refine XS.aload X3.here hx rfl (hb hby at_221) rfl rfl ?_
  show Steps p.tables e below (T3.setTop (mkF m 223 #[.val (.int p1), .val (.int p2), .val (.int p3), .val (.int p4), .val (.int p5), .val (.int (3 : Int32)), .val (.int (Int32.ofNat d0)), .val (.int (Int32.ofNat d1)), .val (.int (Int32.ofNat d2)), .val (.ref o1), .val (.ref o2), .val (.ref o3)] [(.ref o1)])) _
  refine XS.iconst X3.here hx rfl (hb hby at_223) ?_
  show Steps p.tables e below (T3.setTop (mkF m 224 #[.val (.int p1), .val (.int p2), .val (.int p3), .val (.int p4), .val (.int p5), .val (.int (3 : Int32)), .val (.int (Int32.ofNat d0)), .val (.int (Int32.ofNat d1)), .val (.int (Int32.ofNat d2)), .val (.ref o1), .val (.ref o2), .val (.ref o3)] [(.int (2 : Int32)), (.ref o1)])) _
  refine X3.iaload hx (j := (2 : Int32)) (v := (.int p3)) (by rw [e3]; exact ArN.1) (State.isArrayOf_alike hZ.alike ArN.2.1) ArN.2.2 (by rw [SN]; decide) (show cN.slots[(2 : Int32).toNatClampNeg]? = _ from HN 2 (by decide)) (g := (mkF m 224 #[.val (.int p1), .val (.int p2), .val (.int p3), .val (.int p4), .val (.int p5), .val (.int (3 : Int32)), .val (.int (Int32.ofNat d0)), .val (.int (Int32.ofNat d1)), .val (.int (Int32.ofNat d2)), .val (.ref o1), .val (.ref o2), .val (.ref o3)] [(.int (2 : Int32)), (.ref o1)])) rfl rfl (hb hby at_224) _ ?_
  show Steps p.tables e below (T3.setTop (mkF m 225 #[.val (.int p1), .val (.int p2), .val (.int p3), .val (.int p4), .val (.int p5), .val (.int (3 : Int32)), .val (.int (Int32.ofNat d0)), .val (.int (Int32.ofNat d1)), .val (.int (Int32.ofNat d2)), .val (.ref o1), .val (.ref o2), .val (.ref o3)] [(.int p3)])) _
  refine XS.iloadN X3.here hx rfl (hb hby at_225) rfl ?_
  show Steps p.tables e below (T3.setTop (mkF m 226 #[.val (.int p1), .val (.int p2), .val (.int p3), .val (.int p4), .val (.int p5), .val (.int (3 : Int32)), .val (.int (Int32.ofNat d0)), .val (.int (Int32.ofNat d1)), .val (.int (Int32.ofNat d2)), .val (.ref o1), .val (.ref o2), .val (.ref o3)] [(.int p3), (.int p3)])) _
  refine XS.icmpYes X3.here hx rfl (pc0 := 226) (pc' := 231) rfl (hb hby at_226) rfl (teq (rfl : p3 = p3)).1 (by decide) (by decide) ?_
  show Steps p.tables e below (T3.setTop (mkF m 231 #[.val (.int p1), .val (.int p2), .val (.int p3), .val (.int p4), .val (.int p5), .val (.int (3 : Int32)), .val (.int (Int32.ofNat d0)), .val (.int (Int32.ofNat d1)), .val (.int (Int32.ofNat d2)), .val (.ref o1), .val (.ref o2), .val (.ref o3)] [])) _
  refine XS.iload X3.here hx rfl (hb hby at_231) rfl ?_
  show Steps p.tables e below (T3.setTop (mkF m 233 #[.val (.int p1), .val (.int p2), .val (.int p3), .val (.int p4), .val (.int p5), .val (.int (3 : Int32)), .val (.int (Int32.ofNat d0)), .val (.int (Int32.ofNat d1)), .val (.int (Int32.ofNat d2)), .val (.ref o1), .val (.ref o2), .val (.ref o3)] [(.int (3 : Int32))])) _
  refine XS.ifNo X3.here hx rfl (hb hby at_233) rfl ((if0 _ _).trans (tlt (by decide)).2.2.2) ?_
  show Steps p.tables e below (T3.setTop (mkF m 236 #[.val (.int p1), .val (.int p2), .val (.int p3), .val (.int p4), .val (.int p5), .val (.int (3 : Int32)), .val (.int (Int32.ofNat d0)), .val (.int (Int32.ofNat d1)), .val (.int (Int32.ofNat d2)), .val (.ref o1), .val (.ref o2), .val (.ref o3)] [])) _
  refine XS.aload X3.here hx rfl (hb hby at_236) rfl rfl ?_
  show Steps p.tables e below (T3.setTop (mkF m 238 #[.val (.int p1), .val (.int p2), .val (.int p3), .val (.int p4), .val (.int p5), .val (.int (3 : Int32)), .val (.int (Int32.ofNat d0)), .val (.int (Int32.ofNat d1)), .val (.int (Int32.ofNat d2)), .val (.ref o1), .val (.ref o2), .val (.ref o3)] [(.ref o2)])) _
  refine XS.iconst X3.here hx rfl (hb hby at_238) ?_
  show Steps p.tables e below (T3.setTop (mkF m 239 #[.val (.int p1), .val (.int p2), .val (.int p3), .val (.int p4), .val (.int p5), .val (.int (3 : Int32)), .val (.int (Int32.ofNat d0)), .val (.int (Int32.ofNat d1)), .val (.int (Int32.ofNat d2)), .val (.ref o1), .val (.ref o2), .val (.ref o3)] [(.int (0 : Int32)), (.ref o2)])) _
  refine X3.iaload hx (j := (0 : Int32)) (v := (.int (Int32.ofNat d0))) (by rw [e3]; exact ArI.1) (State.isArrayOf_alike hZ.alike ArI.2.1) ArI.2.2 (by rw [SI]; decide) (show cI.slots[(0 : Int32).toNatClampNeg]? = _ from HI 0 (by decide)) (g := (mkF m 239 #[.val (.int p1), .val (.int p2), .val (.int p3), .val (.int p4), .val (.int p5), .val (.int (3 : Int32)), .val (.int (Int32.ofNat d0)), .val (.int (Int32.ofNat d1)), .val (.int (Int32.ofNat d2)), .val (.ref o1), .val (.ref o2), .val (.ref o3)] [(.int (0 : Int32)), (.ref o2)])) rfl rfl (hb hby at_239) _ ?_
  show Steps p.tables e below (T3.setTop (mkF m 240 #[.val (.int p1), .val (.int p2), .val (.int p3), .val (.int p4), .val (.int p5), .val (.int (3 : Int32)), .val (.int (Int32.ofNat d0)), .val (.int (Int32.ofNat d1)), .val (.int (Int32.ofNat d2)), .val (.ref o1), .val (.ref o2), .val (.ref o3)] [(.int (Int32.ofNat d0))])) _
  refine XS.iload X3.here hx rfl (hb hby at_240) rfl ?_
  show Steps p.tables e below (T3.setTop (mkF m 242 #[.val (.int p1), .val (.int p2), .val (.int p3), .val (.int p4), .val (.int p5), .val (.int (3 : Int32)), .val (.int (Int32.ofNat d0)), .val (.int (Int32.ofNat d1)), .val (.int (Int32.ofNat d2)), .val (.ref o1), .val (.ref o2), .val (.ref o3)] [(.int (Int32.ofNat d0)), (.int (Int32.ofNat d0))])) _
  refine XS.icmpYes X3.here hx rfl (pc0 := 242) (pc' := 247) rfl (hb hby at_242) rfl (teq (rfl : Int32.ofNat d0 = Int32.ofNat d0)).1 (by decide) (by decide) ?_
  show Steps p.tables e below (T3.setTop (mkF m 247 #[.val (.int p1), .val (.int p2), .val (.int p3), .val (.int p4), .val (.int p5), .val (.int (3 : Int32)), .val (.int (Int32.ofNat d0)), .val (.int (Int32.ofNat d1)), .val (.int (Int32.ofNat d2)), .val (.ref o1), .val (.ref o2), .val (.ref o3)] [])) _
  refine XS.iload X3.here hx rfl (hb hby at_247) rfl ?_
  show Steps p.tables e below (T3.setTop (mkF m 249 #[.val (.int p1), .val (.int p2), .val (.int p3), .val (.int p4), .val (.int p5), .val (.int (3 : Int32)), .val (.int (Int32.ofNat d0)), .val (.int (Int32.ofNat d1)), .val (.int (Int32.ofNat d2)), .val (.ref o1), .val (.ref o2), .val (.ref o3)] [(.int (3 : Int32))])) _
  refine XS.iconst X3.here hx rfl (hb hby at_249) ?_
  show Steps p.tables e below (T3.setTop (mkF m 250 #[.val (.int p1), .val (.int p2), .val (.int p3), .val (.int p4), .val (.int p5), .val (.int (3 : Int32)), .val (.int (Int32.ofNat d0)), .val (.int (Int32.ofNat d1)), .val (.int (Int32.ofNat d2)), .val (.ref o1), .val (.ref o2), .val (.ref o3)] [(.int (1 : Int32)), (.int (3 : Int32))])) _
  refine XS.icmpNo X3.here hx rfl (hb hby at_250) rfl (tlt (by decide)).2.2.2 ?_
  show Steps p.tables e below (T3.setTop (mkF m 253 #[.val (.int p1), .val (.int p2), .val (.int p3), .val (.int p4), .val (.int p5), .val (.int (3 : Int32)), .val (.int (Int32.ofNat d0)), .val (.int (Int32.ofNat d1)), .val (.int (Int32.ofNat d2)), .val (.ref o1), .val (.ref o2), .val (.ref o3)] [])) _
  refine XS.aload X3.here hx rfl (hb hby at_253) rfl rfl ?_
  show Steps p.tables e below (T3.setTop (mkF m 255 #[.val (.int p1), .val (.int p2), .val (.int p3), .val (.int p4), .val (.int p5), .val (.int (3 : Int32)), .val (.int (Int32.ofNat d0)), .val (.int (Int32.ofNat d1)), .val (.int (Int32.ofNat d2)), .val (.ref o1), .val (.ref o2), .val (.ref o3)] [(.ref o2)])) _
  refine XS.iconst X3.here hx rfl (hb hby at_255) ?_
  show Steps p.tables e below (T3.setTop (mkF m 256 #[.val (.int p1), .val (.int p2), .val (.int p3), .val (.int p4), .val (.int p5), .val (.int (3 : Int32)), .val (.int (Int32.ofNat d0)), .val (.int (Int32.ofNat d1)), .val (.int (Int32.ofNat d2)), .val (.ref o1), .val (.ref o2), .val (.ref o3)] [(.int (1 : Int32)), (.ref o2)])) _
  refine X3.iaload hx (j := (1 : Int32)) (v := (.int (Int32.ofNat d1))) (by rw [e3]; exact ArI.1) (State.isArrayOf_alike hZ.alike ArI.2.1) ArI.2.2 (by rw [SI]; decide) (show cI.slots[(1 : Int32).toNatClampNeg]? = _ from HI 1 (by decide)) (g := (mkF m 256 #[.val (.int p1), .val (.int p2), .val (.int p3), .val (.int p4), .val (.int p5), .val (.int (3 : Int32)), .val (.int (Int32.ofNat d0)), .val (.int (Int32.ofNat d1)), .val (.int (Int32.ofNat d2)), .val (.ref o1), .val (.ref o2), .val (.ref o3)] [(.int (1 : Int32)), (.ref o2)])) rfl rfl (hb hby at_256) _ ?_
  show Steps p.tables e below (T3.setTop (mkF m 257 #[.val (.int p1), .val (.int p2), .val (.int p3), .val (.int p4), .val (.int p5), .val (.int (3 : Int32)), .val (.int (Int32.ofNat d0)), .val (.int (Int32.ofNat d1)), .val (.int (Int32.ofNat d2)), .val (.ref o1), .val (.ref o2), .val (.ref o3)] [(.int (Int32.ofNat d1))])) _
  refine XS.iload X3.here hx rfl (hb hby at_257) rfl ?_
  show Steps p.tables e below (T3.setTop (mkF m 259 #[.val (.int p1), .val (.int p2), .val (.int p3), .val (.int p4), .val (.int p5), .val (.int (3 : Int32)), .val (.int (Int32.ofNat d0)), .val (.int (Int32.ofNat d1)), .val (.int (Int32.ofNat d2)), .val (.ref o1), .val (.ref o2), .val (.ref o3)] [(.int (Int32.ofNat d1)), (.int (Int32.ofNat d1))])) _
  refine XS.icmpYes X3.here hx rfl (pc0 := 259) (pc' := 264) rfl (hb hby at_259) rfl (teq (rfl : Int32.ofNat d1 = Int32.ofNat d1)).1 (by decide) (by decide) ?_
  show Steps p.tables e below (T3.setTop (mkF m 264 #[.val (.int p1), .val (.int p2), .val (.int p3), .val (.int p4), .val (.int p5), .val (.int (3 : Int32)), .val (.int (Int32.ofNat d0)), .val (.int (Int32.ofNat d1)), .val (.int (Int32.ofNat d2)), .val (.ref o1), .val (.ref o2), .val (.ref o3)] [])) _
  refine XS.iload X3.here hx rfl (hb hby at_264) rfl ?_
  show Steps p.tables e below (T3.setTop (mkF m 266 #[.val (.int p1), .val (.int p2), .val (.int p3), .val (.int p4), .val (.int p5), .val (.int (3 : Int32)), .val (.int (Int32.ofNat d0)), .val (.int (Int32.ofNat d1)), .val (.int (Int32.ofNat d2)), .val (.ref o1), .val (.ref o2), .val (.ref o3)] [(.int (3 : Int32))])) _
  refine XS.iconst X3.here hx rfl (hb hby at_266) ?_
  show Steps p.tables e below (T3.setTop (mkF m 267 #[.val (.int p1), .val (.int p2), .val (.int p3), .val (.int p4), .val (.int p5), .val (.int (3 : Int32)), .val (.int (Int32.ofNat d0)), .val (.int (Int32.ofNat d1)), .val (.int (Int32.ofNat d2)), .val (.ref o1), .val (.ref o2), .val (.ref o3)] [(.int (2 : Int32)), (.int (3 : Int32))])) _
  refine XS.icmpNo X3.here hx rfl (hb hby at_267) rfl (tlt (by decide)).2.2.2 ?_
  show Steps p.tables e below (T3.setTop (mkF m 270 #[.val (.int p1), .val (.int p2), .val (.int p3), .val (.int p4), .val (.int p5), .val (.int (3 : Int32)), .val (.int (Int32.ofNat d0)), .val (.int (Int32.ofNat d1)), .val (.int (Int32.ofNat d2)), .val (.ref o1), .val (.ref o2), .val (.ref o3)] [])) _
  refine XS.aload X3.here hx rfl (hb hby at_270) rfl rfl ?_
  show Steps p.tables e below (T3.setTop (mkF m 272 #[.val (.int p1), .val (.int p2), .val (.int p3), .val (.int p4), .val (.int p5), .val (.int (3 : Int32)), .val (.int (Int32.ofNat d0)), .val (.int (Int32.ofNat d1)), .val (.int (Int32.ofNat d2)), .val (.ref o1), .val (.ref o2), .val (.ref o3)] [(.ref o2)])) _
  refine XS.iconst X3.here hx rfl (hb hby at_272) ?_
  show Steps p.tables e below (T3.setTop (mkF m 273 #[.val (.int p1), .val (.int p2), .val (.int p3), .val (.int p4), .val (.int p5), .val (.int (3 : Int32)), .val (.int (Int32.ofNat d0)), .val (.int (Int32.ofNat d1)), .val (.int (Int32.ofNat d2)), .val (.ref o1), .val (.ref o2), .val (.ref o3)] [(.int (2 : Int32)), (.ref o2)])) _
  refine X3.iaload hx (j := (2 : Int32)) (v := (.int (Int32.ofNat d2))) (by rw [e3]; exact ArI.1) (State.isArrayOf_alike hZ.alike ArI.2.1) ArI.2.2 (by rw [SI]; decide) (show cI.slots[(2 : Int32).toNatClampNeg]? = _ from HI 2 (by decide)) (g := (mkF m 273 #[.val (.int p1), .val (.int p2), .val (.int p3), .val (.int p4), .val (.int p5), .val (.int (3 : Int32)), .val (.int (Int32.ofNat d0)), .val (.int (Int32.ofNat d1)), .val (.int (Int32.ofNat d2)), .val (.ref o1), .val (.ref o2), .val (.ref o3)] [(.int (2 : Int32)), (.ref o2)])) rfl rfl (hb hby at_273) _ ?_
  show Steps p.tables e below (T3.setTop (mkF m 274 #[.val (.int p1), .val (.int p2), .val (.int p3), .val (.int p4), .val (.int p5), .val (.int (3 : Int32)), .val (.int (Int32.ofNat d0)), .val (.int (Int32.ofNat d1)), .val (.int (Int32.ofNat d2)), .val (.ref o1), .val (.ref o2), .val (.ref o3)] [(.int (Int32.ofNat d2))])) _
  refine XS.iload X3.here hx rfl (hb hby at_274) rfl ?_
  show Steps p.tables e below (T3.setTop (mkF m 276 #[.val (.int p1), .val (.int p2), .val (.int p3), .val (.int p4), .val (.int p5), .val (.int (3 : Int32)), .val (.int (Int32.ofNat d0)), .val (.int (Int32.ofNat d1)), .val (.int (Int32.ofNat d2)), .val (.ref o1), .val (.ref o2), .val (.ref o3)] [(.int (Int32.ofNat d2)), (.int (Int32.ofNat d2))])) _
  refine XS.icmpYes X3.here hx rfl (pc0 := 276) (pc' := 281) rfl (hb hby at_276) rfl (teq (rfl : Int32.ofNat d2 = Int32.ofNat d2)).1 (by decide) (by decide) ?_
  show Steps p.tables e below (T3.setTop (mkF m 281 #[.val (.int p1), .val (.int p2), .val (.int p3), .val (.int p4), .val (.int p5), .val (.int (3 : Int32)), .val (.int (Int32.ofNat d0)), .val (.int (Int32.ofNat d1)), .val (.int (Int32.ofNat d2)), .val (.ref o1), .val (.ref o2), .val (.ref o3)] [])) _
  refine XS.iconst X3.here hx rfl (hb hby at_281) ?_
  exact kt
set_option maxRecDepth 65536 in
set_option maxHeartbeats 40000000 in
theorem tail {p : Program} {l : Launch} {e : Env} {s : State} {m : MethodId} {args : Array Value} {below : List Frame} {meth : Method} {c : Code} {T0 : State} {locs : List Loc} {Z : State} {a0 : Array Value} {h0 : Heap} {n0 : Nat} (p1 p2 p3 p4 p5 : Int32) (d0 d1 d2 n : Nat) (o1 o2 o3 : Addr) (hn : n ≤ 3)
    (X0 : Stand p l e room_1 s m args below meth c T0 locs 3 9) (hx : p.tables.exec = Jvm.exec) (hZ : Z.Warmed39 s.vm) (hw : ∀ d ∈ tables_1, d.before a0 Z = true) (hby : c.code = code) (hown : s.vm.findClass "com/example/syngraft/syngraft/core/DiffTreeNumbersOfPinLaw" = some m.cls) (e0 : T0.heap = h0) (hml : c.maxLocals = 12) (Z0 : n0 ≤ h0.size) (N0 : Fr n0 locs) (hd0 : d0 < 3) (hd1 : d1 < 3) (hd2 : d2 < 3) (ne1 : o3 ≠ o1) (ne2 : o3 ≠ o2) (V1 : AF Z h0 o1 .int 3 (fun j => .int (own_N p1 p2 p3 j))) (V2 : AF Z h0 o2 .int n (fun j => .int (Int32.ofNat (own_d d0 d1 d2 j)))) (V3 : AF Z h0 o3 .int n (fun j => .int (own_N p1 p2 p3 (own_d d0 d1 d2 j)))) :
    ∃ (T' : State) (locs' : List Loc), Stand p l e room_1 s m args below meth c T' locs' 3 9 ∧ T'.heap = h0 ∧ Fr n0 locs' ∧
      ∀ target, Steps p.tables e below (T'.setTop (mkF m 282 #[.val (.int p1), .val (.int p2), .val (.int p3), .val (.int p4), .val (.int p5), .val (.int (Int32.ofNat n)), .val (.int (Int32.ofNat d0)), .val (.int (Int32.ofNat d1)), .val (.int (Int32.ofNat d2)), .val (.ref o1), .val (.ref o2), .val (.ref o3)] [(.int (1 : Int32))])) target → Steps p.tables e below (T0.setTop (mkF m 106 #[.val (.int p1), .val (.int p2), .val (.int p3), .val (.int p4), .val (.int p5), .val (.int (Int32.ofNat n)), .val (.int (Int32.ofNat d0)), .val (.int (Int32.ofNat d1)), .val (.int (Int32.ofNat d2)), .val (.ref o1), .val (.ref o2), .unset] [(.ref o3)])) target := by
  rcases (by omega : n = 0 ∨ n = 1 ∨ n = 2 ∨ n = 3) with rfl | rfl | rfl | rfl
  · exact tail_0 p1 p2 p3 p4 p5 d0 d1 d2 o1 o2 o3 X0 hx hZ hw hby hown e0 hml Z0 N0 hd0 hd1 hd2 ne1 ne2 V1 V2 V3
  · exact tail_1 p1 p2 p3 p4 p5 d0 d1 d2 o1 o2 o3 X0 hx hZ hw hby hown e0 hml Z0 N0 hd0 hd1 hd2 ne1 ne2 V1 V2 V3
  · exact tail_2 p1 p2 p3 p4 p5 d0 d1 d2 o1 o2 o3 X0 hx hZ hw hby hown e0 hml Z0 N0 hd0 hd1 hd2 ne1 ne2 V1 V2 V3
  · exact tail_3 p1 p2 p3 p4 p5 d0 d1 d2 o1 o2 o3 X0 hx hZ hw hby hown e0 hml Z0 N0 hd0 hd1 hd2 ne1 ne2 V1 V2 V3
theorem pn_0 : plainName "com/example/syngraft/syngraft/core/DiffTreeNumbersOfPinLaw" = true := by first | (simp [plainName, overriddenIn]; done) | decide +kernel
theorem ef_0 (m : MethodId) (x0 x1 x2 x3 x4 : Int32) : entryFrame m #[(.int x0), (.int x1), (.int x2), (.int x3), (.int x4)] maxLocals = mkF m 0 #[.val (.int x0), .val (.int x1), .val (.int x2), .val (.int x3), .val (.int x4), .unset, .unset, .unset, .unset, .unset, .unset, .unset] [] := by first | (simp [entryFrame, mkF, argsToLocals, Value.category, maxLocals]; done) | rfl
def Q0 (n0 : Nat) (v : Option Value) (L : List Loc) : Prop := v = some (.int (1 : Int32)) ∧ Fr n0 L
set_option maxRecDepth 65536 in
set_option maxHeartbeats 40000000 in
theorem rm0 (l : Launch) (Z : State) (a0 : Array Value) (hw : ∀ d ∈ tables_1, d.before a0 Z = true) (ws : List Jvm.Cond) (p1 p2 p3 p4 p5 : Int32) (h0 : Heap) (n0 : Nat) (Z0 : n0 ≤ h0.size) :
    MetFree l x (head1 (Jvm.Cond.code x code maxLocals ret :: ws) room_1) (fun a U => a = #[(.int p1), (.int p2), (.int p3), (.int p4), (.int p5)] ∧ Z.Warmed39 U.vm ∧ U.heap = h0) (fun _ _ _ _ _ => True) (fun _ U o U' => ∃ v L, o = .returned v ∧ Q0 n0 v L ∧ FrameEnd U o U' L room_1.cells room_1.slots) := by
  refine MetFree.of_bodySF (plainFor_of_name pn_0) hisR ?_
  intro p e s m args below meth c s₁ Bd hml0 hP hK
  obtain ⟨rfl, hZ, hh⟩ := hP
  have hx := Bd.exec
  have hby := Bd.bytes
  have hml : c.maxLocals = 12 := hml0
  have hown : s.vm.findClass "com/example/syngraft/syngraft/core/DiffTreeNumbersOfPinLaw" = some m.cls := findClass_of_methodNamed Bd.named
  have X0 : Stand p l e room_1 s m #[(.int p1), (.int p2), (.int p3), (.int p4), (.int p5)] below meth c s₁ [] 0 0 := Stand.of_body Bd
  have e0 : s₁.heap = h0 := by rw [← hh, Bd.state]; rfl
  have N0 := Fr.nil n0
  have pre0 : ∀ t, Steps p.tables e below (s₁.setTop (mkF m 0 #[.val (.int p1), .val (.int p2), .val (.int p3), .val (.int p4), .val (.int p5), .unset, .unset, .unset, .unset, .unset, .unset, .unset] [])) t → Steps p.tables e below (s₁.setTop (entryFrame m #[(.int p1), (.int p2), (.int p3), (.int p4), (.int p5)] maxLocals)) t := fun t k => castTop (ef_0 m p1 p2 p3 p4 p5) k
  obtain ⟨n, hn, en⟩ := own_len p4
  obtain ⟨d0, hd0, ed0⟩ := own_ix p5
  obtain ⟨d1, hd1, ed1⟩ := own_ix (XT.ushr p5 (8 : Int32))
  obtain ⟨d2, hd2, ed2⟩ := own_ix (XT.ushr p5 (16 : Int32))
  obtain ⟨T1, h1, o1, o2, L1, X1, e1, N1, Z1, V1, V2, st1⟩ := fill p1 p2 p3 p4 p5 d0 d1 d2 n hn X0 hx hZ hw hby hown e0 Z0 N0
  obtain ⟨_, _, ⟨T2, L2, k2, n2⟩, -, X2, ⟨Lc2, hQ2, l2, y2, z2⟩, st2⟩ := Jvm.LawKit.callS X1 hx (y := (⟨"com/example/syngraft/syngraft/core/DiffTree", "numbersOf", "([I[I)[I"⟩ : MethodName)) hown (mvT hZ (hw _ (List.mem_of_getElem? (i := 1) rfl))) (mvT hZ (hw _ (List.mem_of_getElem? (i := 2) rfl))) (mvT hZ (hw _ (List.mem_of_getElem? (i := 3) rfl))) (mvT hZ (hw _ (List.mem_of_getElem? (i := 4) rfl))) (by decide) (backOf (W := 0) (rm1 l Z a0 hw [] o1 o2 (own_N p1 p2 p3) (own_d d0 d1 d2) n h1 n0 Z1 V1 V2 hn (own_d3 hd0 hd1 hd2)) hZ (hw _ (List.mem_of_getElem? (i := 4) rfl)) (hw _ (List.mem_of_getElem? (i := 3) rfl)) (by decide) (by decide)) (g := (mkF m 103 #[.val (.int p1), .val (.int p2), .val (.int p3), .val (.int p4), .val (.int p5), .val (.int (Int32.ofNat n)), .val (.int (Int32.ofNat d0)), .val (.int (Int32.ofNat d1)), .val (.int (Int32.ofNat d2)), .val (.ref o1), .val (.ref o2), .unset] [(.ref o2), (.ref o1)])) rfl (by rw [hml]; rfl) (argsL := [(.ref o1), (.ref o2)]) (rest := []) (lenOf pd_0_num rfl) rfl (by show 2 * 0 + _ ≤ _; exact Nat.le_of_eq rfl) (hb hby at_103) (fun _ _ => ⟨rfl, e1, (by decide : 2 + 1 ≤ _), (by decide : 6 + 3 ≤ _)⟩)
  dsimp only [Pt.U, Pt.locs, Pt.cells, Pt.slots] at X2 l2 y2 z2 st2 hQ2
  subst l2 y2 z2
  obtain ⟨rfl, N2q, K2, V3⟩ := hQ2
  have N2 := Fr.app N1 N2q
  obtain ⟨T3, L3, X3, e3, N3, st3⟩ := tail p1 p2 p3 p4 p5 d0 d1 d2 n o1 o2 h1.size hn X2 hx hZ hw hby hown rfl hml (Nat.le_trans Z1 K2.1) N2 hd0 hd1 hd2 (Nat.ne_of_gt V1.lt) (Nat.ne_of_gt V2.lt) (V1.keep K2 nin0) (V2.keep K2 nin0) V3
  obtain ⟨fs, hr, hrun, hended, hW, hsame⟩ := X3.leave (v := some (.int (1 : Int32))) (fun h => by rw [Bd.returns] at h; cases h)
  refine ⟨_, _, pre0 _ ?_, hrun, hended, _, _, rfl, ?_, ⟨_, rfl⟩, hW, hsame.mono (by decide) (by decide)⟩
  · refine sg0 p1 p2 p3 p4 p5 X0 hx hZ hw hby hown e0 ?_
    rw [en, ed0, ed1, ed2]
    refine st1 _ ?_
    show Steps p.tables e below (T1.setTop (mkF m 99 #[.val (.int p1), .val (.int p2), .val (.int p3), .val (.int p4), .val (.int p5), .val (.int (Int32.ofNat n)), .val (.int (Int32.ofNat d0)), .val (.int (Int32.ofNat d1)), .val (.int (Int32.ofNat d2)), .val (.ref o1), .val (.ref o2), .unset] [])) _
    refine XS.aload X1.here hx rfl (hb hby at_99) rfl rfl ?_
    show Steps p.tables e below (T1.setTop (mkF m 101 #[.val (.int p1), .val (.int p2), .val (.int p3), .val (.int p4), .val (.int p5), .val (.int (Int32.ofNat n)), .val (.int (Int32.ofNat d0)), .val (.int (Int32.ofNat d1)), .val (.int (Int32.ofNat d2)), .val (.ref o1), .val (.ref o2), .unset] [(.ref o1)])) _
    refine XS.aload X1.here hx rfl (hb hby at_101) rfl rfl ?_
    show Steps p.tables e below (T1.setTop (mkF m 103 #[.val (.int p1), .val (.int p2), .val (.int p3), .val (.int p4), .val (.int p5), .val (.int (Int32.ofNat n)), .val (.int (Int32.ofNat d0)), .val (.int (Int32.ofNat d1)), .val (.int (Int32.ofNat d2)), .val (.ref o1), .val (.ref o2), .unset] [(.ref o2), (.ref o1)])) _
    refine st2 _ ?_
    refine st3 _ ?_
    exact retN X3 hx (t := .boolean) Bd.returns (by simp) (hb hby at_282) hr
  · exact ⟨rfl, N3⟩
set_option maxRecDepth 65536 in
set_option maxHeartbeats 40000000 in
theorem comes_1 {Post : Tables → Env → Array Value → State → Outcome → State → Prop} (hpost : ∀ tb e args s v u, (limb_1_1.after args s (.returned v) u = true ∧ limb_1_2.after args s (.returned v) u = true ∧ True) → FrameEnd s (.returned v) u (Jvm.fieldLocs frame_1_writes args s ++ Jvm.arrayLocs frame_1_arrays args s ++ Jvm.staticLocs frame_1_statics s) 16 128 → Post tb e args s (.returned v) u) :
    ArmFor flags0 classFile x code maxLocals ret World_1 tables_1 room_1 Calls_1 rest_1 Pre_1 Post := by
  intro l hfl _ _ p e ha hc hk s m args below hf hA hF happ hP
  obtain ⟨hcalls, hrest, hpre⟩ := hP
  obtain ⟨-, -, -, hnamed, -, -, -, hat⟩ := (Spec.applies_iff hf).mp happ
  obtain ⟨hg, hn⟩ := and_e (Cond.before_iff.mp (show (Jvm.Cond.and given_1 narrow_1).before args s = true from hpre))
  obtain ⟨g1, g2⟩ := and_e hg
  obtain ⟨k0, g3⟩ := and_e g2
  obtain ⟨k1, g4⟩ := and_e g3
  obtain ⟨k2, g5⟩ := and_e g4
  obtain ⟨k3, k4⟩ := and_e g5
  obtain ⟨w0, w1, w2, w3, w4, rfl⟩ : ∃ w0 w1 w2 w3 w4 : Value, args = #[w0, w1, w2, w3, w4] := by
    have hs : args.size = 5 := by simpa [Cond.value, given_1] using g1
    obtain ⟨L⟩ := args
    match L, hs with
    | [w0, w1, w2, w3, w4], _ => exact ⟨w0, w1, w2, w3, w4, rfl⟩
  have hw := fun d (hd : d ∈ tables_1) => atoms_spec (ws := Jvm.Cond.code x code maxLocals ret :: tables_1) hat d (List.mem_cons_of_mem _ hd)
  obtain ⟨i0, ei0⟩ := is_v k0
  obtain rfl : w0 = (.int i0) := Option.some.inj ei0
  obtain ⟨i1, ei1⟩ := is_v k1
  obtain rfl : w1 = (.int i1) := Option.some.inj ei1
  obtain ⟨i2, ei2⟩ := is_v k2
  obtain rfl : w2 = (.int i2) := Option.some.inj ei2
  obtain ⟨i3, ei3⟩ := is_v k3
  obtain rfl : w3 = (.int i3) := Option.some.inj ei3
  obtain ⟨i4, ei4⟩ := is_v k4
  obtain rfl : w4 = (.int i4) := Option.some.inj ei4
  obtain ⟨n, o, h1, h2, h3, _, L, rfl, ⟨rfl, N⟩, hq⟩ := rm0 l s _ hw tables_1 i0 i1 i2 i3 i4 s.heap s.heap.size (Nat.le_refl _) p e ha hc hk s m _ below hf ((Spec.applies_iff_loose hf).mp happ).1 ⟨rfl, State.Warmed39.refl s, rfl⟩ trivial
  refine ⟨n, _, h1, h2, h3, hpost _ _ _ _ _ _ ⟨Cond.after_iff.mpr rfl, Cond.after_iff.mpr (eq_i res_at (Term.int_eval (1)) rfl), trivial⟩ ⟨hq.1, hq.2.1, (hq.2.2.sift fun y hy => Or.inr (N y hy)).mono (by decide) (by decide)⟩⟩
theorem main_1_1 : Claimed_1_1 := comes_1 fun _ _ _ _ _ _ h hF => ⟨h.1, hF⟩
theorem main_1_2 : Claimed_1_2 := comes_1 fun _ _ _ _ _ _ h hF => ⟨h.2.1, hF⟩
end Jvm.Pilot.@@N@@
namespace Jvm.Pilot.@@N@@
open Jvm Jvm.ClassFile Sem Op Lib Jvm.Free Jvm.Stand Jvm.Pilot.@@N@@.Jvm.D
/-! MADE BY PROGRAM (witnessworld.py) out of the Statement's table words and the real class files: 9 classes; the members and pool entries that the words name. The judged class is class 1, her method 2. -/
namespace start1
open Jvm.ClassFile
def u (s : String) : CpInfo := .utf8 (stringToUtf16 s)
/-- a pool by its gaps: so many unusable entries, then the entry; so many at the end -/
def gap : Nat → List CpInfo → List CpInfo
  | 0, r => r
  | n + 1, r => .unusable :: gap n r
def poolList (es : List (Nat × CpInfo)) (last : Nat) : List CpInfo := es.foldr (fun e r => gap e.1 (e.2 :: r)) (gap last [])
def pool (es : List (Nat × CpInfo)) (last : Nat) : Array CpInfo := ⟨poolList es last⟩
def fileOf (pool : Array CpInfo) (this : Nat) (attrs : Array Attribute := #[]) (ms : Array MethodInfo := #[]) (fl : Nat := 33) (sup : Nat := 0) (ifs : Array Nat := #[]) (fds : Array FieldInfo := #[]) : ClassFile where
  minorVersion := 0
  majorVersion := 65
  constantPool := pool
  accessFlags := fl
  thisClass := this
  superClass := sup
  interfaces := ifs
  fields := fds
  methods := ms
  attributes := attrs
def plain (name : String) (sup : Option ClassId) : Class where
  name := name
  kind := .ordinary
  loader := none
  accessFlags := 33
  super := sup
  interfaces := #[]
  cf := none
  fields := #[]
  methods := #[]
  instanceTypes := #[]
  staticTypes := #[]
  resolved := #[]
  callSites := []
  init := .initialized
  statics := none
  mirror := none

def pool0 : Array CpInfo := pool [(5, u "<init>"), (0, u "()V"), (1, .class_ 10), (1, u "java/lang/Object")] 113

def k0m0 : Method := { name := "<init>", desc := "()V", sig := { parameters := [], returnType := none }, accessFlags := 1, code := none }
/-- java/lang/Object -/
def k0 : Class := { plain "java/lang/Object" none with
  accessFlags := 33
  interfaces := #[]
  cf := some (fileOf pool0 8 #[] #[{ accessFlags := 1, nameIndex := 5, descriptorIndex := 6, attributes := #[] }] 33 0 #[] #[])
  fields := #[]
  methods := #[k0m0]
  instanceTypes := #[]
  staticTypes := #[]
  resolved := Array.replicate 124 none
  statics := none }

def pool1 : Array CpInfo := pool [(2, .class_ 4), (1, u "java/lang/Object"), (0, u "<init>"), (0, u "()V"), (0, .methodref 8 9), (0, .class_ 10), (0, .nameAndType 11 12), (0, u "com/example/syngraft/syngraft/core/DiffTree"), (0, u "numbersOf"), (0, u "([I[I)[I"), (0, .methodref 14 15), (0, .class_ 16), (0, .nameAndType 17 18), (0, u "com/example/syngraft/syngraft/core/DiffTreeNumbersOfPinLaw"), (0, u "pick"), (0, u "(IIII)I"), (3, u "law"), (0, u "(IIIII)Z")] 4

def k1m0 : Method := { name := "<init>", desc := "()V", sig := { parameters := [], returnType := none }, accessFlags := 1, code := none }
def k1c1 : Code := { maxStack := 2, maxLocals := 4, code := method_2_code, exceptionTable := #[], attributes := #[] }
def k1m1 : Method := { name := "pick", desc := "(IIII)I", sig := { parameters := [.int, .int, .int, .int], returnType := some .int }, accessFlags := 10, code := some k1c1 }
def k1c2 : Code := { maxStack := 5, maxLocals := 12, code := code, exceptionTable := #[], attributes := #[] }
def k1m2 : Method := { name := "law", desc := "(IIIII)Z", sig := { parameters := [.int, .int, .int, .int, .int], returnType := some .boolean }, accessFlags := 9, code := some k1c2 }
/-- com/example/syngraft/syngraft/core/DiffTreeNumbersOfPinLaw -/
def k1 : Class := { plain "com/example/syngraft/syngraft/core/DiffTreeNumbersOfPinLaw" (some 0) with
  accessFlags := 49
  interfaces := #[]
  cf := some (fileOf pool1 14 #[] #[{ accessFlags := 1, nameIndex := 5, descriptorIndex := 6, attributes := #[] }, { accessFlags := 10, nameIndex := 17, descriptorIndex := 18, attributes := #[] }, { accessFlags := 9, nameIndex := 22, descriptorIndex := 23, attributes := #[] }] 49 2 #[] #[])
  fields := #[]
  methods := #[k1m0, k1m1, k1m2]
  instanceTypes := #[]
  staticTypes := #[]
  resolved := Array.replicate 28 none
  statics := none }

def pool2 : Array CpInfo := pool [(2, .class_ 4), (1, u "java/lang/Object"), (3, .class_ 10), (1, u "com/example/syngraft/syngraft/core/DiffTree"), (0, u "tree"), (0, u "Lcom/example/syngraft/syngraft/core/SyntaxTree;"), (6, .class_ 20), (0, u "com/example/syngraft/syngraft/core/DiffTree$Pending"), (36, u "children"), (11, u "nodes"), (0, u "[Lcom/example/syngraft/syngraft/core/Node;"), (2, u "parents"), (0, u "[I"), (2, u "places"), (3, u "[[I"), (7, .class_ 91), (1, u "com/example/syngraft/syngraft/core/DiffTree$Numbers"), (0, u "tokens"), (9, u "own"), (2, u "keys"), (28, u "contents"), (2, u "shapes"), (29, u "lineStarts"), (74, u "IDENTIFIER"), (2, u "I"), (6, u "numbersOf"), (0, u "([I[I)[I")] 36

def k2c0 : Code := { maxStack := 5, maxLocals := 4, code := prog_9_method_3_code, exceptionTable := #[], attributes := #[] }
def k2m0 : Method := { name := "numbersOf", desc := "([I[I)[I", sig := { parameters := [(.array .int), (.array .int)], returnType := some (.array .int) }, accessFlags := 8, code := some k2c0 }
/-- com/example/syngraft/syngraft/core/DiffTree -/
def k2 : Class := { plain "com/example/syngraft/syngraft/core/DiffTree" (some 0) with
  accessFlags := 32
  interfaces := #[]
  cf := some (fileOf pool2 8 #[.nestMembers #[19, 89]] #[{ accessFlags := 8, nameIndex := 252, descriptorIndex := 253, attributes := #[] }] 32 2 #[] #[{ accessFlags := 26, nameIndex := 242, descriptorIndex := 245, attributes := #[] }, { accessFlags := 16, nameIndex := 11, descriptorIndex := 12, attributes := #[] }, { accessFlags := 16, nameIndex := 69, descriptorIndex := 70, attributes := #[] }, { accessFlags := 16, nameIndex := 73, descriptorIndex := 74, attributes := #[] }, { accessFlags := 16, nameIndex := 57, descriptorIndex := 81, attributes := #[] }, { accessFlags := 16, nameIndex := 77, descriptorIndex := 74, attributes := #[] }, { accessFlags := 16, nameIndex := 102, descriptorIndex := 81, attributes := #[] }, { accessFlags := 16, nameIndex := 105, descriptorIndex := 74, attributes := #[] }, { accessFlags := 16, nameIndex := 134, descriptorIndex := 74, attributes := #[] }, { accessFlags := 16, nameIndex := 137, descriptorIndex := 74, attributes := #[] }, { accessFlags := 16, nameIndex := 92, descriptorIndex := 74, attributes := #[] }, { accessFlags := 2, nameIndex := 167, descriptorIndex := 74, attributes := #[] }])
  fields := #[{ name := "IDENTIFIER", type := .int, accessFlags := 26, slot := 0, constantValue := 0 }, { name := "tree", type := (.object "com/example/syngraft/syngraft/core/SyntaxTree"), accessFlags := 16, slot := 0, constantValue := 0 }, { name := "nodes", type := (.array (.object "com/example/syngraft/syngraft/core/Node")), accessFlags := 16, slot := 1, constantValue := 0 }, { name := "parents", type := (.array .int), accessFlags := 16, slot := 2, constantValue := 0 }, { name := "children", type := (.array (.array .int)), accessFlags := 16, slot := 3, constantValue := 0 }, { name := "places", type := (.array .int), accessFlags := 16, slot := 4, constantValue := 0 }, { name := "own", type := (.array (.array .int)), accessFlags := 16, slot := 5, constantValue := 0 }, { name := "keys", type := (.array .int), accessFlags := 16, slot := 6, constantValue := 0 }, { name := "contents", type := (.array .int), accessFlags := 16, slot := 7, constantValue := 0 }, { name := "shapes", type := (.array .int), accessFlags := 16, slot := 8, constantValue := 0 }, { name := "tokens", type := (.array .int), accessFlags := 16, slot := 9, constantValue := 0 }, { name := "lineStarts", type := (.array .int), accessFlags := 2, slot := 10, constantValue := 0 }]
  methods := #[k2m0]
  instanceTypes := #[(.object "com/example/syngraft/syngraft/core/SyntaxTree"), (.array (.object "com/example/syngraft/syngraft/core/Node")), (.array .int), (.array (.array .int)), (.array .int), (.array (.array .int)), (.array .int), (.array .int), (.array .int), (.array .int), (.array .int)]
  staticTypes := #[.int]
  resolved := Array.replicate 290 none
  statics := none }

def pool3 : Array CpInfo := pool [(1, u "java/lang/Cloneable"), (0, .class_ 1), (0, u "java/lang/Object"), (0, .class_ 3)] 3

/-- java/lang/Cloneable -/
def k3 : Class := { plain "java/lang/Cloneable" (some 0) with
  accessFlags := 1537
  interfaces := #[]
  cf := some (fileOf pool3 2 #[] #[] 1537 4 #[] #[])
  fields := #[]
  methods := #[]
  instanceTypes := #[]
  staticTypes := #[]
  resolved := Array.replicate 8 none
  statics := none }

def pool4 : Array CpInfo := pool [(1, u "java/io/Serializable"), (0, .class_ 1), (0, u "java/lang/Object"), (0, .class_ 3)] 3

/-- java/io/Serializable -/
def k4 : Class := { plain "java/io/Serializable" (some 0) with
  accessFlags := 1537
  interfaces := #[]
  cf := some (fileOf pool4 2 #[] #[] 1537 4 #[] #[])
  fields := #[]
  methods := #[]
  instanceTypes := #[]
  staticTypes := #[]
  resolved := Array.replicate 8 none
  statics := none }

/-- the primitive byte -/
def k5 : Class := { plain "byte" none with kind := .primitive 'B', accessFlags := 0x411 }
/-- [B -/
def k6 : Class := { plain "[B" (some 0) with kind := .array 5 .byte, interfaces := #[3, 4], accessFlags := 1041 }

/-- the primitive int -/
def k7 : Class := { plain "int" none with kind := .primitive 'I', accessFlags := 0x411 }
/-- [I -/
def k8 : Class := { plain "[I" (some 0) with kind := .array 7 .int, interfaces := #[3, 4], accessFlags := 1041 }

def heap : Heap := #[]
def classes : Array Class := #[k0, k1, k2, k3, k4, k5, k6, k7, k8]
def interned : List (Array UInt16 × Addr) := []
def slotsUsed : Nat := 0
def theMethod : MethodId := ⟨1, 2⟩
def args0 : Array Value := #[.int 5, .int 6, .int 7, .int 3, .int 258]
def aboutOver (below : List Frame) : State where
  vm := { classes := classes, interned := interned.toArray }
  heap := heap
  slotsUsed := slotsUsed
  threads := #[{ frames := .invoking theMethod args0 :: below }]
def below0 : List Frame := [.native { method := ⟨0, 0⟩, args := #[] }]
def about1 : State := aboutOver below0
def p0 : Program := .bare "" "" ""
def e0 : Env := launch0.env 0 0 0
theorem w_frames : about1.frames = Frame.invoking theMethod args0 :: below0 := rfl
set_option maxRecDepth 65536 in
theorem w_args : argsFit about1.vm theMethod args0 = true := by decide +kernel
set_option maxRecDepth 65536 in
theorem w_heap : heapFits about1 = true := by decide +kernel
set_option maxRecDepth 65536 in
theorem w_runnable : about1.curStatus? = some .runnable := by decide +kernel
set_option maxRecDepth 65536 in
theorem w_alone : about1.alone = true := by decide +kernel
set_option maxRecDepth 65536 in
theorem w_named : about1.methodNamed? x = some theMethod := by decide +kernel
set_option maxRecDepth 65536 in
theorem w_hears : about1.hears theMethod below0 = true := by decide +kernel
set_option maxRecDepth 65536 in
theorem w_ripe : about1.ripe theMethod args0 below0 = true := by decide +kernel
theorem w_running : about1.status = .running := rfl
set_option maxRecDepth 65536 in
theorem w_room : about1.hasRoom e0.platform room_1 = true :=
  launch0.hasRoom_least _ room_1 (by decide +kernel) (by decide +kernel) (by decide +kernel) (by decide +kernel) (by decide +kernel) (by decide +kernel)
theorem allAtoms_all (ts : List Jvm.Cond) (a : Array Jvm.Value) (st : Jvm.State) : (allAtoms ts).before a st = ts.all (fun c => c.before a st) := by
  induction ts with
  | nil => rfl
  | cons c t ih =>
    show (Jvm.Cond.and c (allAtoms t)).before a st = _
    rw [Jvm.Cond.before_and, ih, List.all_cons]
def words1 : List Jvm.Cond := Jvm.Cond.code x code maxLocals ret :: tables_1
/-- a 'code' word, met by the world's own term for the bytes: nothing is compared byte by byte -/
theorem code_word {y : MethodName} {bytes : ByteArray} {mx : Nat} {rt : Option FieldType} {a : Array Value} {s : State} {m : MethodId} {meth : Method} {c : Code} (h1 : s.methodNamed? y = some m) (h2 : s.vm.method? m = some meth) (h3 : meth.code = some c) (h4 : c.code = bytes)
    (h5 : (c.maxLocals == mx && c.exceptionTable.isEmpty && decide (c.maxStack ≤ mostOperands) && decide (meth.sig.returnType = rt) && !meth.locks && decide (parseMethodDescriptor y.desc = some meth.sig)) = true) : (Jvm.Cond.code y bytes mx rt).before a s = true := by
  simp only [Bool.and_eq_true, beq_iff_eq, Bool.not_eq_true', decide_eq_true_eq] at h5
  obtain ⟨⟨⟨⟨⟨g1, g2⟩, g3⟩, g4⟩, g5⟩, g6⟩ := h5
  simp [Cond.before, Cond.holds, Cond.value, h1, h2, h3, h4, g1, g2, g3, g4, g5, g6]
def isCode : Jvm.Cond → Bool
  | .code _ _ _ _ => true
  | _ => false
theorem all_split {L : List Jvm.Cond} {P : Jvm.Cond → Bool} (h1 : L.all (fun c => isCode c || P c) = true) (h2 : ∀ c ∈ L.filter isCode, P c = true) : L.all P = true := by
  refine List.all_eq_true.mpr fun c hc => ?_
  have h := List.all_eq_true.mp h1 c hc
  rcases Bool.eq_false_or_eq_true (isCode c) with hi | hi
  · exact h2 c (List.mem_filter.mpr ⟨hc, hi⟩)
  · simpa [hi] using h
set_option maxRecDepth 65536 in
theorem w_c0 : (Jvm.Cond.code x code maxLocals ret).before args0 about1 = true := code_word (m := ⟨1, 2⟩) (meth := k1m2) (c := k1c2) (by decide +kernel) rfl rfl rfl (by decide +kernel)
set_option maxRecDepth 65536 in
theorem w_c1 : (Jvm.Cond.code ({ cls := "com/example/syngraft/syngraft/core/DiffTree", name := "numbersOf", desc := "([I[I)[I" } : Jvm.MethodName) prog_9_method_3_code (4 : Nat) (Option.some (Jvm.ClassFile.FieldType.array Jvm.ClassFile.FieldType.int))).before args0 about1 = true := code_word (m := ⟨2, 0⟩) (meth := k2m0) (c := k2c0) (by decide +kernel) rfl rfl rfl (by decide +kernel)
set_option maxRecDepth 65536 in
theorem w_c2 : (Jvm.Cond.code ({ cls := "com/example/syngraft/syngraft/core/DiffTreeNumbersOfPinLaw", name := "pick", desc := "(IIII)I" } : Jvm.MethodName) method_2_code (4 : Nat) (Option.some Jvm.ClassFile.FieldType.int)).before args0 about1 = true := code_word (m := ⟨1, 1⟩) (meth := k1m1) (c := k1c1) (by decide +kernel) rfl rfl rfl (by decide +kernel)
def codes1 : List Jvm.Cond := [Jvm.Cond.code x code maxLocals ret, Jvm.Cond.code ({ cls := "com/example/syngraft/syngraft/core/DiffTree", name := "numbersOf", desc := "([I[I)[I" } : Jvm.MethodName) prog_9_method_3_code (4 : Nat) (Option.some (Jvm.ClassFile.FieldType.array Jvm.ClassFile.FieldType.int)), Jvm.Cond.code ({ cls := "com/example/syngraft/syngraft/core/DiffTreeNumbersOfPinLaw", name := "pick", desc := "(IIII)I" } : Jvm.MethodName) method_2_code (4 : Nat) (Option.some Jvm.ClassFile.FieldType.int)]
set_option maxRecDepth 65536 in
theorem codes_eq : words1.filter isCode = codes1 := rfl
theorem w_codes : ∀ c ∈ words1.filter isCode, c.before args0 about1 = true := by
  rw [codes_eq]
  intro c hc
  simp only [codes1, List.mem_cons, List.not_mem_nil, or_false] at hc
  rcases hc with rfl | rfl | rfl
  · exact w_c0
  · exact w_c1
  · exact w_c2
set_option maxRecDepth 65536 in
theorem w_t1 : words1.all (fun c => isCode c || c.before args0 about1) = true := by decide +kernel
theorem w_tables : (allAtoms (Jvm.Cond.code x code maxLocals ret :: tables_1)).before args0 about1 = true := by
  rw [allAtoms_all]
  show words1.all (fun c => c.before args0 about1) = true
  refine all_split ?_ w_codes
  rw [w_t1]
set_option maxRecDepth 65536 in
theorem w_case : (Jvm.Cond.and given_1 narrow_1).before args0 about1 = true := by decide +kernel
theorem w_applies : (headSpec (Jvm.Cond.code x code maxLocals ret :: tables_1) room_1).applies x e0.platform about1 = true :=
  (Spec.applies_iff w_frames).mpr ⟨w_running, w_runnable, w_alone, w_named, w_hears, w_ripe, w_room, w_tables⟩
theorem atStart : AtStart classFile x code maxLocals ret World_1 tables_1 room_1 Calls_1 rest_1 Pre_1 launch0 p0 e0 about1 theMethod args0 below0 :=
  ⟨lists_1, trivial, launch0.admits_env _ _ _, launch0.least_env, fairChoices_fair.cas, fairChoices_fair.clock, w_frames, w_args, w_heap, w_applies, trivial, trivial, w_case⟩
end start1
theorem witness_1 : WitnessClaimed_1 := ⟨start1.p0, start1.e0, start1.about1, start1.theMethod, start1.args0, start1.below0, start1.atStart⟩
end Jvm.Pilot.@@N@@
