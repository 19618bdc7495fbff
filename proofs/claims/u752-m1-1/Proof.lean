import JvmDerived
import JvmDerived.Pilot.@@N@@Statement
import JvmDerived.Pilot.@@N@@Code
set_option linter.unusedVariables false
set_option linter.unusedSimpArgs false
namespace Jvm.RoadKit
open Sem ClassFile Op Lib Jvm.Stand Jvm.Free Jvm.LawKit
section New
variable {p : Program} {l : Launch} {e : Env} {R : Room} {s : State} {m : MethodId} {args : Array Value} {below : List Frame} {meth : Method} {c : Code} {T : State} {locs : List Loc} {cells slots : Nat}
theorem retI (X : Stand p l e R s m args below meth c T locs cells slots) (hx : p.tables.exec = Jvm.exec) {pc : Nat} {Ls : Array Slot} {z : Int32} {rest : List Value} (hret : meth.sig.returnType = some .int) (hd : decode c.code pc = .ok (.ireturn, 1)) {fs : List Frame}
    (hl : ∀ (f : JFrame) (acts : List Action), f.method = m → f.locked = none → f.entered = [] → (doReturn e (T.setTop f) acts (some (.int z))).1 = T.setFrames fs) : Steps p.tables e below (T.setTop (mkF m pc Ls (.int z :: rest))) (T.setFrames fs) := by
  have hm' : T.vm.method? m = some meth := X.method'
  have hn : narrow .int (.int z) = .int z := rfl
  show Steps p.tables e below (T.setTop { method := m, pc := pc, locals := Ls, stack := _ :: rest, locked := none }) _
  jvm_step X.here [X.here.top, hx, hd, hm', hret, hn]
  first | (intro acts; rw [hl _ acts rfl rfl rfl]) | rw [hl _ _ rfl rfl rfl]
  exact Steps.refl _
end New
end Jvm.RoadKit
namespace Jvm.Pilot.@@N@@
open Jvm Jvm.ClassFile Sem Op Lib Jvm.Free Jvm.Stand Jvm.LawKit Jvm.RoadKit Bundle Jvm.Pilot.@@N@@.Jvm.D
def AF (Z : State) (h : Heap) (a : Addr) (ty : FieldType) (n : Nat) (f : Nat → Value) : Prop := ∃ c : Cell, Arr Z h a c ty ∧ c.slots.size = n ∧ ∀ j, j < n → c.slots[j]? = some (f j)
theorem AF.lt {Z : State} {h : Heap} {a : Addr} {ty : FieldType} {n : Nat} {f : Nat → Value} (F : AF Z h a ty n f) : a < h.size := by obtain ⟨c, A, -⟩ := F; exact A.lt
theorem AF.ext {Z : State} {h h' : Heap} {a : Addr} {ty : FieldType} {n : Nat} {f : Nat → Value} (F : AF Z h a ty n f) (E : Ext h h') : AF Z h' a ty n f := by obtain ⟨c, A, r⟩ := F; exact ⟨c, A.ext E, r⟩
theorem AF.other {Z : State} {h h' : Heap} {a b : Addr} {ty : FieldType} {n : Nat} {f : Nat → Value} {sl : Nat} {v : Value} (F : AF Z h b ty n f) (W : Wr h h' a sl v) (q : b ≠ a) : AF Z h' b ty n f := by obtain ⟨c, A, r⟩ := F; exact ⟨c, A.other W q, r⟩
theorem AF.keep {Z : State} {h h' : Heap} {a : Addr} {ty : FieldType} {n : Nat} {f : Nat → Value} {ws : List Addr} (F : AF Z h a ty n f) (K : Keep h h' ws) (q : a ∉ ws) : AF Z h' a ty n f := by obtain ⟨c, A, r⟩ := F; exact ⟨c, ⟨K.2.1 a c A.1 q, A.2⟩, r⟩
theorem AF.congr {Z : State} {h : Heap} {a : Addr} {ty : FieldType} {n : Nat} {f g : Nat → Value} (F : AF Z h a ty n f) (q : ∀ j, j < n → f j = g j) : AF Z h a ty n g := by obtain ⟨c, A, s, r⟩ := F; exact ⟨c, A, s, fun j hj => by rw [r j hj, q j hj]⟩
theorem AF.new {Z : State} {h : Heap} {a : Addr} {ty : FieldType} {n : Nat} {k : ClassId} {z : Int32} (A : Arr Z h a (newA k ty z) ty) (q : z.toNatClampNeg = n) : AF Z h a ty n (fun _ => defaultValue ty) := ⟨_, A, by rw [sz_new, q], fun j hj => by simp [newA, q, hj]⟩
theorem AF.set {Z : State} {h h' : Heap} {a : Addr} {ty : FieldType} {n : Nat} {f : Nat → Value} {i : Nat} {v : Value} (F : AF Z h a ty n f) (W : Wr h h' a i v) : AF Z h' a ty n (fun j => if j = i then v else f j) := by
  obtain ⟨c, A, s, r⟩ := F
  refine ⟨_, A.same W, by rw [sz_set]; exact s, fun j hj => ?_⟩
  by_cases q : j = i
  · subst q
    simp [Cell.setSlot, s, hj]
  · have q' : i ≠ j := fun z => q z.symm
    simp only [q, if_false]
    rw [← r j hj]
    simp [Cell.setSlot, Array.getElem?_setIfInBounds, q']
theorem own_keep {h h' : Heap} (q : h' = h) : Keep h h' [] := by subst q; exact Keep.refl _ _
def own_r (b : Bool) : Int32 := if b = true then 1 else 0
theorem own_r01 (b : Bool) : nar .boolean (own_r b) = own_r b := by cases b <;> rfl
theorem own_lt {i n : Nat} (h : i < n) (hn : n < 2 ^ 31) : Int32.ofNat i < Int32.ofNat n := by
  rw [Int32.lt_iff_toInt_lt, toInt_of rfl (by omega), toInt_of rfl hn]; omega
theorem own_ge {i n : Nat} (h : n ≤ i) (hn : i < 2 ^ 31) : ¬ Int32.ofNat i < Int32.ofNat n := by
  rw [Int32.lt_iff_toInt_lt, toInt_of rfl (by omega), toInt_of rfl (by omega)]; omega
theorem own_nn {n : Nat} (hn : n < 2 ^ 31) : ¬ Int32.ofNat n < 0 := by
  rw [Int32.lt_iff_toInt_lt, toInt_of rfl hn, show (0 : Int32).toInt = 0 from rfl]; omega
theorem own_len (p : Int32) : ∃ n : Nat, n ≤ 3 ∧ (p &&& (3 : Int32)) = Int32.ofNat n := by
  have h1 := c_mask p 3 2 (by decide) (by decide)
  have h3 : (p &&& (3 : Int32)).toInt = 0 ∨ (p &&& (3 : Int32)).toInt = 1 ∨ (p &&& (3 : Int32)).toInt = 2 ∨ (p &&& (3 : Int32)).toInt = 3 := by omega
  rcases h3 with h | h | h | h
  · exact ⟨0, by omega, Int32.toInt_inj.mp h⟩
  · exact ⟨1, by omega, Int32.toInt_inj.mp h⟩
  · exact ⟨2, by omega, Int32.toInt_inj.mp h⟩
  · exact ⟨3, by omega, Int32.toInt_inj.mp h⟩
theorem own_255 (x : Int32) : ¬ (255 : Int32) < (x &&& (255 : Int32)).toUInt32.toUInt16.toUInt32.toInt32 := by
  rw [i2c_mask]
  have h1 := c_mask x 255 8 (by decide) (by decide)
  rw [Int32.lt_iff_toInt_lt, h1, show (255 : Int32).toInt = 255 from rfl]; omega
theorem own_staK {Z : State} {n0 : Nat} {h : Heap} {C n d : String} {v : Value} (O : Old Z n0 h) (F : Sta Z Z.heap C n d v) : Sta Z h C n d v := F.ext O.2
theorem d4_0 : decode prog_1_method_2_code 0 = .ok (.aload_n 0, 1) := by decide +kernel
theorem d4_1 : decode prog_1_method_2_code 1 = .ok (.getfield 25, 3) := by decide +kernel
theorem d4_4 : decode prog_1_method_2_code 4 = .ok (.aload_n 0, 1) := by decide +kernel
theorem d4_5 : decode prog_1_method_2_code 5 = .ok (.getfield 22, 3) := by decide +kernel
theorem d4_8 : decode prog_1_method_2_code 8 = .ok (.arraylength, 1) := by decide +kernel
theorem d4_9 : decode prog_1_method_2_code 9 = .ok (.if_icmp .ge 7, 3) := by decide +kernel
theorem d4_12 : decode prog_1_method_2_code 12 = .ok (.iconst 1, 1) := by decide +kernel
theorem d4_13 : decode prog_1_method_2_code 13 = .ok (.goto 4, 3) := by decide +kernel
theorem d4_17 : decode prog_1_method_2_code 17 = .ok (.ireturn, 1) := by decide +kernel
theorem pn_4lt : plainName "com/example/graphweave/graphweave/Arguments" = true := by first | (simp [plainName, overriddenIn]; done) | decide +kernel
def Q4lt (Z : State)  (h0 : Heap) (n0 : Nat) (v : Option Value) (h : Heap) (L : List Loc) : Prop := v = some (.int (1 : Int32)) ∧ Fr n0 L ∧ h = h0
set_option maxRecDepth 65536 in
set_option maxHeartbeats 40000000 in
theorem rm4lt (l : Launch) (Z : State) (a0 : Array Value) (hw : ∀ d ∈ tables_1, d.before a0 Z = true) (ws : List Jvm.Cond) (a1 aa : Addr) (k n : Nat) (cA : Cell) (h0 : Heap) (n0 : Nat) (Z0 : n0 ≤ h0.size) (Fn : Fld Z h0 a1 "com/example/graphweave/graphweave/Arguments" "next" "I" (.int (Int32.ofNat k))) (Fa : Fld Z h0 a1 "com/example/graphweave/graphweave/Arguments" "args" "[Ljava/lang/String;" (.ref aa)) (ArA : Arr Z h0 aa cA (.object "java/lang/String")) (SA : cA.slots.size = n) (hn : n ≤ 3) (hk : k ≤ 3) (hkn : k < n) :
    MetFree l (⟨"com/example/graphweave/graphweave/Arguments", "hasNext", "()Z"⟩ : MethodName) (head1 (Jvm.Cond.code (⟨"com/example/graphweave/graphweave/Arguments", "hasNext", "()Z"⟩ : MethodName) prog_1_method_2_code 1 (some .boolean) :: ws) ({ frames := 0, cells := 0, slots := 0, locals := 0 } : Room)) (fun a U => a = #[(.ref a1)] ∧ Z.Warmed39 U.vm ∧ U.heap = h0) (fun _ _ _ _ _ => True) (fun _ U o U' => ∃ v L, o = .returned v ∧ Q4lt Z  h0 n0 v U'.heap L ∧ FrameEnd U o U' L ({ frames := 0, cells := 0, slots := 0, locals := 0 } : Room).cells ({ frames := 0, cells := 0, slots := 0, locals := 0 } : Room).slots) := by
  refine MetFree.of_bodySF (plainFor_of_name pn_4lt) hisR ?_
  intro p e s m args below meth c s₁ Bd hml0 hP hK
  obtain ⟨rfl, hZ, hh⟩ := hP
  have hx := Bd.exec
  have hby := Bd.bytes
  have hml : c.maxLocals = 1 := hml0
  have hown : s.vm.findClass "com/example/graphweave/graphweave/Arguments" = some m.cls := findClass_of_methodNamed Bd.named
  have hnm := (name_of_methodNamed Bd.named Bd.method).1
  have X0 : Stand p l e ({ frames := 0, cells := 0, slots := 0, locals := 0 } : Room) s m #[(.ref a1)] below meth c s₁ [] 0 0 := Stand.of_body Bd
  have e0 : s₁.heap = h0 := by rw [← hh, Bd.state]; rfl
  have N0 := Fr.nil n0
  have pre0 : ∀ t, Steps p.tables e below (s₁.setTop (mkF m 0 #[.val (.ref a1)] [])) t → Steps p.tables e below (s₁.setTop (entryFrame m #[(.ref a1)] 1)) t := fun t k => castTop (by first | (simp [entryFrame, mkF, argsToLocals, Value.category]; done) | rfl) k
  have S4' : cA.slots.size = (Int32.ofNat n).toNatClampNeg := by rw [clamp_of rfl (by omega)]; exact SA
  obtain ⟨T1, X1, e1, st1⟩ := getF X0 hx hZ hown (host := "") (Or.inl (hw _ (List.mem_of_getElem? (i := 44) rfl))) Via.refl e0 Fn (g := (mkF m 1 #[.val (.ref a1)] [(.ref a1)])) rfl rfl (hb hby d4_1)
  obtain ⟨T2, X2, e2, st2⟩ := getF X1 hx hZ hown (host := "") (Or.inl (hw _ (List.mem_of_getElem? (i := 33) rfl))) Via.refl e1 Fa (g := (mkF m 5 #[.val (.ref a1)] [(.ref a1), (.int (Int32.ofNat k))])) rfl rfl (hb hby d4_5)
  obtain ⟨fs, hr, hrun, hended, hW, hsame⟩ := X2.leave (v := some (.int (1 : Int32))) (fun h => by rw [Bd.returns] at h; cases h)
  refine ⟨_, _, pre0 _ ?_, hrun, hended, _, _, rfl, ?_, ⟨_, rfl⟩, hW, hsame.mono (by decide) (by decide)⟩
  · show Steps p.tables e below (s₁.setTop (mkF m 0 #[.val (.ref a1)] [])) _
    refine XS.aloadN X0.here hx rfl (hb hby d4_0) rfl rfl ?_
    show Steps p.tables e below (s₁.setTop (mkF m 1 #[.val (.ref a1)] [(.ref a1)])) _
    refine st1 _ ?_
    show Steps p.tables e below (T1.setTop (mkF m 4 #[.val (.ref a1)] [(.int (Int32.ofNat k))])) _
    refine XS.aloadN X1.here hx rfl (hb hby d4_4) rfl rfl ?_
    show Steps p.tables e below (T1.setTop (mkF m 5 #[.val (.ref a1)] [(.ref a1), (.int (Int32.ofNat k))])) _
    refine st2 _ ?_
    show Steps p.tables e below (T2.setTop (mkF m 8 #[.val (.ref a1)] [(.ref aa), (.int (Int32.ofNat k))])) _
    refine X2.arraylength hx (by rw [e2]; exact ArA.1) (State.isArrayOf_alike hZ.alike ArA.2.1) (g := (mkF m 8 #[.val (.ref a1)] [(.ref aa), (.int (Int32.ofNat k))])) rfl rfl (hb hby d4_8) _ ?_
    rw [len_of S4' (own_nn (by omega))]
    show Steps p.tables e below (T2.setTop (mkF m 9 #[.val (.ref a1)] [(.int (Int32.ofNat n)), (.int (Int32.ofNat k))])) _
    refine XS.icmpNo X2.here hx rfl (hb hby d4_9) rfl (tlt (own_lt hkn (by omega))).2.1 ?_
    show Steps p.tables e below (T2.setTop (mkF m 12 #[.val (.ref a1)] [])) _
    refine XS.iconst X2.here hx rfl (hb hby d4_12) ?_
    show Steps p.tables e below (T2.setTop (mkF m 13 #[.val (.ref a1)] [(.int (1 : Int32))])) _
    refine XS.goto X2.here hx rfl (pc0 := 13) (pc' := 17) rfl (hb hby d4_13) (by decide) (by decide) ?_
    show Steps p.tables e below (T2.setTop (mkF m 17 #[.val (.ref a1)] [(.int (1 : Int32))])) _
    exact retN X2 hx (t := .boolean) Bd.returns (by simp) (hb hby d4_17) hr
  · show Q4lt Z h0 n0 _ T2.heap _
    rw [e2]
    exact ⟨rfl, N0, rfl⟩
theorem d4_16 : decode prog_1_method_2_code 16 = .ok (.iconst 0, 1) := by decide +kernel
theorem pn_4ge : plainName "com/example/graphweave/graphweave/Arguments" = true := by first | (simp [plainName, overriddenIn]; done) | decide +kernel
def Q4ge (Z : State)  (h0 : Heap) (n0 : Nat) (v : Option Value) (h : Heap) (L : List Loc) : Prop := v = some (.int (0 : Int32)) ∧ Fr n0 L ∧ h = h0
set_option maxRecDepth 65536 in
set_option maxHeartbeats 40000000 in
theorem rm4ge (l : Launch) (Z : State) (a0 : Array Value) (hw : ∀ d ∈ tables_1, d.before a0 Z = true) (ws : List Jvm.Cond) (a1 aa : Addr) (k n : Nat) (cA : Cell) (h0 : Heap) (n0 : Nat) (Z0 : n0 ≤ h0.size) (Fn : Fld Z h0 a1 "com/example/graphweave/graphweave/Arguments" "next" "I" (.int (Int32.ofNat k))) (Fa : Fld Z h0 a1 "com/example/graphweave/graphweave/Arguments" "args" "[Ljava/lang/String;" (.ref aa)) (ArA : Arr Z h0 aa cA (.object "java/lang/String")) (SA : cA.slots.size = n) (hn : n ≤ 3) (hk : k ≤ 3) (hkn : n ≤ k) :
    MetFree l (⟨"com/example/graphweave/graphweave/Arguments", "hasNext", "()Z"⟩ : MethodName) (head1 (Jvm.Cond.code (⟨"com/example/graphweave/graphweave/Arguments", "hasNext", "()Z"⟩ : MethodName) prog_1_method_2_code 1 (some .boolean) :: ws) ({ frames := 0, cells := 0, slots := 0, locals := 0 } : Room)) (fun a U => a = #[(.ref a1)] ∧ Z.Warmed39 U.vm ∧ U.heap = h0) (fun _ _ _ _ _ => True) (fun _ U o U' => ∃ v L, o = .returned v ∧ Q4ge Z  h0 n0 v U'.heap L ∧ FrameEnd U o U' L ({ frames := 0, cells := 0, slots := 0, locals := 0 } : Room).cells ({ frames := 0, cells := 0, slots := 0, locals := 0 } : Room).slots) := by
  refine MetFree.of_bodySF (plainFor_of_name pn_4ge) hisR ?_
  intro p e s m args below meth c s₁ Bd hml0 hP hK
  obtain ⟨rfl, hZ, hh⟩ := hP
  have hx := Bd.exec
  have hby := Bd.bytes
  have hml : c.maxLocals = 1 := hml0
  have hown : s.vm.findClass "com/example/graphweave/graphweave/Arguments" = some m.cls := findClass_of_methodNamed Bd.named
  have hnm := (name_of_methodNamed Bd.named Bd.method).1
  have X0 : Stand p l e ({ frames := 0, cells := 0, slots := 0, locals := 0 } : Room) s m #[(.ref a1)] below meth c s₁ [] 0 0 := Stand.of_body Bd
  have e0 : s₁.heap = h0 := by rw [← hh, Bd.state]; rfl
  have N0 := Fr.nil n0
  have pre0 : ∀ t, Steps p.tables e below (s₁.setTop (mkF m 0 #[.val (.ref a1)] [])) t → Steps p.tables e below (s₁.setTop (entryFrame m #[(.ref a1)] 1)) t := fun t k => castTop (by first | (simp [entryFrame, mkF, argsToLocals, Value.category]; done) | rfl) k
  have S4' : cA.slots.size = (Int32.ofNat n).toNatClampNeg := by rw [clamp_of rfl (by omega)]; exact SA
  obtain ⟨T1, X1, e1, st1⟩ := getF X0 hx hZ hown (host := "") (Or.inl (hw _ (List.mem_of_getElem? (i := 44) rfl))) Via.refl e0 Fn (g := (mkF m 1 #[.val (.ref a1)] [(.ref a1)])) rfl rfl (hb hby d4_1)
  obtain ⟨T2, X2, e2, st2⟩ := getF X1 hx hZ hown (host := "") (Or.inl (hw _ (List.mem_of_getElem? (i := 33) rfl))) Via.refl e1 Fa (g := (mkF m 5 #[.val (.ref a1)] [(.ref a1), (.int (Int32.ofNat k))])) rfl rfl (hb hby d4_5)
  obtain ⟨fs, hr, hrun, hended, hW, hsame⟩ := X2.leave (v := some (.int (0 : Int32))) (fun h => by rw [Bd.returns] at h; cases h)
  refine ⟨_, _, pre0 _ ?_, hrun, hended, _, _, rfl, ?_, ⟨_, rfl⟩, hW, hsame.mono (by decide) (by decide)⟩
  · show Steps p.tables e below (s₁.setTop (mkF m 0 #[.val (.ref a1)] [])) _
    refine XS.aloadN X0.here hx rfl (hb hby d4_0) rfl rfl ?_
    show Steps p.tables e below (s₁.setTop (mkF m 1 #[.val (.ref a1)] [(.ref a1)])) _
    refine st1 _ ?_
    show Steps p.tables e below (T1.setTop (mkF m 4 #[.val (.ref a1)] [(.int (Int32.ofNat k))])) _
    refine XS.aloadN X1.here hx rfl (hb hby d4_4) rfl rfl ?_
    show Steps p.tables e below (T1.setTop (mkF m 5 #[.val (.ref a1)] [(.ref a1), (.int (Int32.ofNat k))])) _
    refine st2 _ ?_
    show Steps p.tables e below (T2.setTop (mkF m 8 #[.val (.ref a1)] [(.ref aa), (.int (Int32.ofNat k))])) _
    refine X2.arraylength hx (by rw [e2]; exact ArA.1) (State.isArrayOf_alike hZ.alike ArA.2.1) (g := (mkF m 8 #[.val (.ref a1)] [(.ref aa), (.int (Int32.ofNat k))])) rfl rfl (hb hby d4_8) _ ?_
    rw [len_of S4' (own_nn (by omega))]
    show Steps p.tables e below (T2.setTop (mkF m 9 #[.val (.ref a1)] [(.int (Int32.ofNat n)), (.int (Int32.ofNat k))])) _
    refine XS.icmpYes X2.here hx rfl (pc0 := 9) (pc' := 16) rfl (hb hby d4_9) rfl (flt (own_ge hkn (by omega))).2.1 (by decide) (by decide) ?_
    show Steps p.tables e below (T2.setTop (mkF m 16 #[.val (.ref a1)] [])) _
    refine XS.iconst X2.here hx rfl (hb hby d4_16) ?_
    show Steps p.tables e below (T2.setTop (mkF m 17 #[.val (.ref a1)] [(.int (0 : Int32))])) _
    exact retN X2 hx (t := .boolean) Bd.returns (by simp) (hb hby d4_17) hr
  · show Q4ge Z h0 n0 _ T2.heap _
    rw [e2]
    exact ⟨rfl, N0, rfl⟩
theorem d9_0 : decode prog_1_method_3_code 0 = .ok (.aload_n 0, 1) := by decide +kernel
theorem d9_1 : decode prog_1_method_3_code 1 = .ok (.getfield 22, 3) := by decide +kernel
theorem d9_4 : decode prog_1_method_3_code 4 = .ok (.aload_n 0, 1) := by decide +kernel
theorem d9_5 : decode prog_1_method_3_code 5 = .ok (.dup, 1) := by decide +kernel
theorem d9_6 : decode prog_1_method_3_code 6 = .ok (.getfield 25, 3) := by decide +kernel
theorem d9_9 : decode prog_1_method_3_code 9 = .ok (.dup_x1, 1) := by decide +kernel
theorem d9_10 : decode prog_1_method_3_code 10 = .ok (.iconst 1, 1) := by decide +kernel
theorem d9_11 : decode prog_1_method_3_code 11 = .ok (.iadd, 1) := by decide +kernel
theorem d9_12 : decode prog_1_method_3_code 12 = .ok (.putfield 25, 3) := by decide +kernel
theorem d9_15 : decode prog_1_method_3_code 15 = .ok (.aaload, 1) := by decide +kernel
theorem d9_16 : decode prog_1_method_3_code 16 = .ok (.areturn, 1) := by decide +kernel
theorem pn_9 : plainName "com/example/graphweave/graphweave/Arguments" = true := by first | (simp [plainName, overriddenIn]; done) | decide +kernel
def Q9 (Z : State) (a1 aa : Addr) (k : Nat) (S : Nat → Addr) (h0 : Heap) (n0 : Nat) (v : Option Value) (h : Heap) (L : List Loc) : Prop := v = some (.ref (S k)) ∧ Fr n0 L ∧ Keep h0 h [a1] ∧ Fld Z h a1 "com/example/graphweave/graphweave/Arguments" "next" "I" (.int (Int32.ofNat (k + 1))) ∧ Fld Z h a1 "com/example/graphweave/graphweave/Arguments" "args" "[Ljava/lang/String;" (.ref aa)
set_option maxRecDepth 65536 in
set_option maxHeartbeats 40000000 in
theorem rm9 (l : Launch) (Z : State) (a0 : Array Value) (hw : ∀ d ∈ tables_1, d.before a0 Z = true) (ws : List Jvm.Cond) (a1 aa : Addr) (k n : Nat) (S : Nat → Addr) (h0 : Heap) (n0 : Nat) (Z0 : n0 ≤ h0.size) (g1 : n0 ≤ a1) (E : Exa Z h0 a1 "com/example/graphweave/graphweave/Arguments") (Fn : Fld Z h0 a1 "com/example/graphweave/graphweave/Arguments" "next" "I" (.int (Int32.ofNat k))) (Fa : Fld Z h0 a1 "com/example/graphweave/graphweave/Arguments" "args" "[Ljava/lang/String;" (.ref aa)) (VA : AF Z h0 aa (.object "java/lang/String") n (fun j => .ref (S j))) (ne : aa ≠ a1) (hn : n ≤ 3) (hk : k < n) :
    MetFree l (⟨"com/example/graphweave/graphweave/Arguments", "next", "()Ljava/lang/String;"⟩ : MethodName) (head1 (Jvm.Cond.code (⟨"com/example/graphweave/graphweave/Arguments", "next", "()Ljava/lang/String;"⟩ : MethodName) prog_1_method_3_code 1 (some (.object "java/lang/String")) :: ws) ({ frames := 0, cells := 0, slots := 0, locals := 0 } : Room)) (fun a U => a = #[(.ref a1)] ∧ Z.Warmed39 U.vm ∧ U.heap = h0) (fun _ _ _ _ _ => True) (fun _ U o U' => ∃ v L, o = .returned v ∧ Q9 Z a1 aa k S h0 n0 v U'.heap L ∧ FrameEnd U o U' L ({ frames := 0, cells := 0, slots := 0, locals := 0 } : Room).cells ({ frames := 0, cells := 0, slots := 0, locals := 0 } : Room).slots) := by
  refine MetFree.of_bodySF (plainFor_of_name pn_9) hisR ?_
  intro p e s m args below meth c s₁ Bd hml0 hP hK
  obtain ⟨rfl, hZ, hh⟩ := hP
  have hx := Bd.exec
  have hby := Bd.bytes
  have hml : c.maxLocals = 1 := hml0
  have hown : s.vm.findClass "com/example/graphweave/graphweave/Arguments" = some m.cls := findClass_of_methodNamed Bd.named
  have hnm := (name_of_methodNamed Bd.named Bd.method).1
  have X0 : Stand p l e ({ frames := 0, cells := 0, slots := 0, locals := 0 } : Room) s m #[(.ref a1)] below meth c s₁ [] 0 0 := Stand.of_body Bd
  have e0 : s₁.heap = h0 := by rw [← hh, Bd.state]; rfl
  have N0 := Fr.nil n0
  have pre0 : ∀ t, Steps p.tables e below (s₁.setTop (mkF m 0 #[.val (.ref a1)] [])) t → Steps p.tables e below (s₁.setTop (entryFrame m #[(.ref a1)] 1)) t := fun t k => castTop (by first | (simp [entryFrame, mkF, argsToLocals, Value.category]; done) | rfl) k
  obtain ⟨T1, X1, e1, st1⟩ := getF X0 hx hZ hown (host := "") (Or.inl (hw _ (List.mem_of_getElem? (i := 33) rfl))) Via.refl e0 Fa (g := (mkF m 1 #[.val (.ref a1)] [(.ref a1)])) rfl rfl (hb hby d9_1)
  obtain ⟨T2, X2, e2, st2⟩ := getF X1 hx hZ hown (host := "") (Or.inl (hw _ (List.mem_of_getElem? (i := 44) rfl))) Via.refl e1 Fn (g := (mkF m 6 #[.val (.ref a1)] [(.ref a1), (.ref a1), (.ref aa)])) rfl rfl (hb hby d9_6)
  obtain ⟨T3, h3, X3, e3, W3, st3⟩ := putF X2 hx hZ hown (host := "") (Or.inl (hw _ (List.mem_of_getElem? (i := 44) rfl))) Via.refl e2 Fn E (Or.inl (hw _ (List.mem_of_getElem? (i := 45) rfl))) (hw _ (List.mem_of_getElem? (i := 3) rfl)) (ty := .int) (by decide) rfl rfl (g := (mkF m 12 #[.val (.ref a1)] [(.int ((Int32.ofNat k) + (1 : Int32))), (.ref a1), (.int (Int32.ofNat k)), (.ref aa)])) rfl rfl (hb hby d9_12)
  have Fn3 := Fn.same W3
  have N3 := Fr.snoc X3 N0 g1
  have K3 : Keep h0 h3 [a1] := Keep.of_wr W3
  have Fa3 := Fa.other W3 (Or.inr (slot_ne (Or.inr (hw _ (List.mem_of_getElem? (i := 34) rfl))) (Or.inl (hw _ (List.mem_of_getElem? (i := 45) rfl))) (by decide) (t := (.array (.object "java/lang/String"))) (t' := .int) (by decide) (by decide)))
  obtain ⟨cA, ArA, SA, HA⟩ := VA
  have Ar3 := ArA.other W3 ne
  have hk' : (Int32.ofNat k).toNatClampNeg = k := clamp_of rfl (by omega)
  have hin : ¬ (Int32.ofNat k < 0 ∨ cA.slots.size ≤ (Int32.ofNat k).toNatClampNeg) := by rw [SA]; exact within rfl hk (by omega)
  have hat : cA.slots[(Int32.ofNat k).toNatClampNeg]? = some (.ref (S k)) := by rw [hk']; exact HA k hk
  obtain ⟨fs, hr, hrun, hended, hW, hsame⟩ := X3.leave (v := some (.ref (S k))) (fun h => by rw [Bd.returns] at h; cases h)
  refine ⟨_, _, pre0 _ ?_, hrun, hended, _, _, rfl, ?_, ⟨_, rfl⟩, hW, hsame.mono (by decide) (by decide)⟩
  · show Steps p.tables e below (s₁.setTop (mkF m 0 #[.val (.ref a1)] [])) _
    refine XS.aloadN X0.here hx rfl (hb hby d9_0) rfl rfl ?_
    show Steps p.tables e below (s₁.setTop (mkF m 1 #[.val (.ref a1)] [(.ref a1)])) _
    refine st1 _ ?_
    show Steps p.tables e below (T1.setTop (mkF m 4 #[.val (.ref a1)] [(.ref aa)])) _
    refine XS.aloadN X1.here hx rfl (hb hby d9_4) rfl rfl ?_
    show Steps p.tables e below (T1.setTop (mkF m 5 #[.val (.ref a1)] [(.ref a1), (.ref aa)])) _
    refine XS.dup X1.here hx rfl (hb hby d9_5) rfl rfl ?_
    show Steps p.tables e below (T1.setTop (mkF m 6 #[.val (.ref a1)] [(.ref a1), (.ref a1), (.ref aa)])) _
    refine st2 _ ?_
    show Steps p.tables e below (T2.setTop (mkF m 9 #[.val (.ref a1)] [(.int (Int32.ofNat k)), (.ref a1), (.ref aa)])) _
    refine XS.dupX1 X2.here hx rfl (hb hby d9_9) rfl rfl rfl ?_
    show Steps p.tables e below (T2.setTop (mkF m 10 #[.val (.ref a1)] [(.int (Int32.ofNat k)), (.ref a1), (.int (Int32.ofNat k)), (.ref aa)])) _
    refine XS.iconst X2.here hx rfl (hb hby d9_10) ?_
    show Steps p.tables e below (T2.setTop (mkF m 11 #[.val (.ref a1)] [(.int (1 : Int32)), (.int (Int32.ofNat k)), (.ref a1), (.int (Int32.ofNat k)), (.ref aa)])) _
    refine XS.iadd X2.here hx rfl (hb hby d9_11) rfl ?_
    show Steps p.tables e below (T2.setTop (mkF m 12 #[.val (.ref a1)] [(.int ((Int32.ofNat k) + (1 : Int32))), (.ref a1), (.int (Int32.ofNat k)), (.ref aa)])) _
    refine st3 _ ?_
    show Steps p.tables e below (T3.setTop (mkF m 15 #[.val (.ref a1)] [(.int (Int32.ofNat k)), (.ref aa)])) _
    refine X3.aaload hx (j := (Int32.ofNat k)) (v := (.ref (S k))) (by rw [e3]; exact Ar3.1) (State.isArrayOf_alike hZ.alike Ar3.2.1) rfl Ar3.2.2 hin hat (g := (mkF m 15 #[.val (.ref a1)] [(.int (Int32.ofNat k)), (.ref aa)])) rfl rfl (hb hby d9_15) _ ?_
    show Steps p.tables e below (T3.setTop (mkF m 16 #[.val (.ref a1)] [(.ref (S k))])) _
    jvm_step X3.here [X3.here.top, hx, (hb hby d9_16), X3.method', Bd.returns, Value.isRef, FieldType.isReference]
    first | (intro acts; rw [hr _ acts rfl rfl rfl]) | rw [hr _ _ rfl rfl rfl]
    exact Steps.refl _
  · show Q9 Z a1 aa k S h0 n0 _ T3.heap _
    rw [e3]
    exact ⟨rfl, N3, K3, by rw [inc_ofNat]; exact Fn3, Fa3⟩
theorem d10_0 : decode jdk_42_method_66_code 0 = .ok (.aload_n 0, 1) := by decide +kernel
theorem d10_1 : decode jdk_42_method_66_code 1 = .ok (.aload_n 1, 1) := by decide +kernel
theorem d10_2 : decode jdk_42_method_66_code 2 = .ok (.if_acmp .ne 5, 3) := by decide +kernel
theorem d10_5 : decode jdk_42_method_66_code 5 = .ok (.iconst 1, 1) := by decide +kernel
theorem d10_6 : decode jdk_42_method_66_code 6 = .ok (.ireturn, 1) := by decide +kernel
theorem pn_10 : plainName "java/lang/String" = true := by first | (simp [plainName, overriddenIn]; done) | decide +kernel
def Q10 (Z : State)  (h0 : Heap) (n0 : Nat) (v : Option Value) (h : Heap) (L : List Loc) : Prop := v = some (.int (1 : Int32)) ∧ Fr n0 L ∧ h = h0
set_option maxRecDepth 65536 in
set_option maxHeartbeats 40000000 in
theorem rm10 (l : Launch) (Z : State) (a0 : Array Value) (hw : ∀ d ∈ tables_1, d.before a0 Z = true) (ws : List Jvm.Cond) (a1 : Addr) (h0 : Heap) (n0 : Nat) (Z0 : n0 ≤ h0.size)  :
    MetFree l (⟨"java/lang/String", "equals", "(Ljava/lang/Object;)Z"⟩ : MethodName) (head1 (Jvm.Cond.code (⟨"java/lang/String", "equals", "(Ljava/lang/Object;)Z"⟩ : MethodName) jdk_42_method_66_code 3 (some .boolean) :: ws) ({ frames := 0, cells := 0, slots := 0, locals := 0 } : Room)) (fun a U => a = #[(.ref a1), (.ref a1)] ∧ Z.Warmed39 U.vm ∧ U.heap = h0) (fun _ _ _ _ _ => True) (fun _ U o U' => ∃ v L, o = .returned v ∧ Q10 Z  h0 n0 v U'.heap L ∧ FrameEnd U o U' L ({ frames := 0, cells := 0, slots := 0, locals := 0 } : Room).cells ({ frames := 0, cells := 0, slots := 0, locals := 0 } : Room).slots) := by
  refine MetFree.of_bodySF (plainFor_of_name pn_10) hisR ?_
  intro p e s m args below meth c s₁ Bd hml0 hP hK
  obtain ⟨rfl, hZ, hh⟩ := hP
  have hx := Bd.exec
  have hby := Bd.bytes
  have hml : c.maxLocals = 3 := hml0
  have hown : s.vm.findClass "java/lang/String" = some m.cls := findClass_of_methodNamed Bd.named
  have hnm := (name_of_methodNamed Bd.named Bd.method).1
  have X0 : Stand p l e ({ frames := 0, cells := 0, slots := 0, locals := 0 } : Room) s m #[(.ref a1), (.ref a1)] below meth c s₁ [] 0 0 := Stand.of_body Bd
  have e0 : s₁.heap = h0 := by rw [← hh, Bd.state]; rfl
  have N0 := Fr.nil n0
  have pre0 : ∀ t, Steps p.tables e below (s₁.setTop (mkF m 0 #[.val (.ref a1), .val (.ref a1), .unset] [])) t → Steps p.tables e below (s₁.setTop (entryFrame m #[(.ref a1), (.ref a1)] 3)) t := fun t k => castTop (by first | (simp [entryFrame, mkF, argsToLocals, Value.category]; done) | rfl) k
  obtain ⟨fs, hr, hrun, hended, hW, hsame⟩ := X0.leave (v := some (.int (1 : Int32))) (fun h => by rw [Bd.returns] at h; cases h)
  refine ⟨_, _, pre0 _ ?_, hrun, hended, _, _, rfl, ?_, ⟨_, rfl⟩, hW, hsame.mono (by decide) (by decide)⟩
  · show Steps p.tables e below (s₁.setTop (mkF m 0 #[.val (.ref a1), .val (.ref a1), .unset] [])) _
    refine XS.aloadN X0.here hx rfl (hb hby d10_0) rfl rfl ?_
    show Steps p.tables e below (s₁.setTop (mkF m 1 #[.val (.ref a1), .val (.ref a1), .unset] [(.ref a1)])) _
    refine XS.aloadN X0.here hx rfl (hb hby d10_1) rfl rfl ?_
    show Steps p.tables e below (s₁.setTop (mkF m 2 #[.val (.ref a1), .val (.ref a1), .unset] [(.ref a1), (.ref a1)])) _
    refine Jvm.RoadKit.acmp (g := (mkF m 2 #[.val (.ref a1), .val (.ref a1), .unset] [(.ref a1), (.ref a1)])) X0 hx rfl rfl rfl (pc0 := 2) (pc' := 5) (same := true) rfl (hb hby d10_2) rfl (decide_eq_true rfl) (by decide) (by decide) ?_
    show Steps p.tables e below (s₁.setTop (mkF m 5 #[.val (.ref a1), .val (.ref a1), .unset] [])) _
    refine XS.iconst X0.here hx rfl (hb hby d10_5) ?_
    show Steps p.tables e below (s₁.setTop (mkF m 6 #[.val (.ref a1), .val (.ref a1), .unset] [(.int (1 : Int32))])) _
    exact retN X0 hx (t := .boolean) Bd.returns (by simp) (hb hby d10_6) hr
  · show Q10 Z h0 n0 _ s₁.heap _
    rw [e0]
    exact ⟨rfl, N0, rfl⟩
theorem d6_0 : decode jdk_43_method_3_code 0 = .ok (.iload_n 0, 1) := by decide +kernel
theorem d6_1 : decode jdk_43_method_3_code 1 = .ok (.sipush 255, 3) := by decide +kernel
theorem d6_4 : decode jdk_43_method_3_code 4 = .ok (.if_icmp .gt 7, 3) := by decide +kernel
theorem d6_7 : decode jdk_43_method_3_code 7 = .ok (.iconst 1, 1) := by decide +kernel
theorem d6_8 : decode jdk_43_method_3_code 8 = .ok (.goto 4, 3) := by decide +kernel
theorem d6_12 : decode jdk_43_method_3_code 12 = .ok (.ireturn, 1) := by decide +kernel
theorem pn_6 : plainName "java/lang/StringLatin1" = true := by first | (simp [plainName, overriddenIn]; done) | decide +kernel
def Q6 (Z : State)  (h0 : Heap) (n0 : Nat) (v : Option Value) (h : Heap) (L : List Loc) : Prop := v = some (.int (1 : Int32)) ∧ Fr n0 L ∧ h = h0
set_option maxRecDepth 65536 in
set_option maxHeartbeats 40000000 in
theorem rm6 (l : Launch) (Z : State) (a0 : Array Value) (hw : ∀ d ∈ tables_1, d.before a0 Z = true) (ws : List Jvm.Cond) (p1 : Int32) (h0 : Heap) (n0 : Nat) (Z0 : n0 ≤ h0.size) (hc4 : ¬ (255 : Int32) < p1) :
    MetFree l (⟨"java/lang/StringLatin1", "canEncode", "(C)Z"⟩ : MethodName) (head1 (Jvm.Cond.code (⟨"java/lang/StringLatin1", "canEncode", "(C)Z"⟩ : MethodName) jdk_43_method_3_code 1 (some .boolean) :: ws) ({ frames := 0, cells := 0, slots := 0, locals := 0 } : Room)) (fun a U => a = #[(.int p1)] ∧ Z.Warmed39 U.vm ∧ U.heap = h0) (fun _ _ _ _ _ => True) (fun _ U o U' => ∃ v L, o = .returned v ∧ Q6 Z  h0 n0 v U'.heap L ∧ FrameEnd U o U' L ({ frames := 0, cells := 0, slots := 0, locals := 0 } : Room).cells ({ frames := 0, cells := 0, slots := 0, locals := 0 } : Room).slots) := by
  refine MetFree.of_bodySF (plainFor_of_name pn_6) hisR ?_
  intro p e s m args below meth c s₁ Bd hml0 hP hK
  obtain ⟨rfl, hZ, hh⟩ := hP
  have hx := Bd.exec
  have hby := Bd.bytes
  have hml : c.maxLocals = 1 := hml0
  have hown : s.vm.findClass "java/lang/StringLatin1" = some m.cls := findClass_of_methodNamed Bd.named
  have hnm := (name_of_methodNamed Bd.named Bd.method).1
  have X0 : Stand p l e ({ frames := 0, cells := 0, slots := 0, locals := 0 } : Room) s m #[(.int p1)] below meth c s₁ [] 0 0 := Stand.of_body Bd
  have e0 : s₁.heap = h0 := by rw [← hh, Bd.state]; rfl
  have N0 := Fr.nil n0
  have pre0 : ∀ t, Steps p.tables e below (s₁.setTop (mkF m 0 #[.val (.int p1)] [])) t → Steps p.tables e below (s₁.setTop (entryFrame m #[(.int p1)] 1)) t := fun t k => castTop (by first | (simp [entryFrame, mkF, argsToLocals, Value.category]; done) | rfl) k
  obtain ⟨fs, hr, hrun, hended, hW, hsame⟩ := X0.leave (v := some (.int (1 : Int32))) (fun h => by rw [Bd.returns] at h; cases h)
  refine ⟨_, _, pre0 _ ?_, hrun, hended, _, _, rfl, ?_, ⟨_, rfl⟩, hW, hsame.mono (by decide) (by decide)⟩
  · show Steps p.tables e below (s₁.setTop (mkF m 0 #[.val (.int p1)] [])) _
    refine XS.iloadN X0.here hx rfl (hb hby d6_0) rfl ?_
    show Steps p.tables e below (s₁.setTop (mkF m 1 #[.val (.int p1)] [(.int p1)])) _
    refine XS.sipush X0.here hx rfl (hb hby d6_1) ?_
    show Steps p.tables e below (s₁.setTop (mkF m 4 #[.val (.int p1)] [(.int (255 : Int32)), (.int p1)])) _
    refine XS.icmpNo X0.here hx rfl (hb hby d6_4) rfl (flt hc4).2.2.1 ?_
    show Steps p.tables e below (s₁.setTop (mkF m 7 #[.val (.int p1)] [])) _
    refine XS.iconst X0.here hx rfl (hb hby d6_7) ?_
    show Steps p.tables e below (s₁.setTop (mkF m 8 #[.val (.int p1)] [(.int (1 : Int32))])) _
    refine XS.goto X0.here hx rfl (pc0 := 8) (pc' := 12) rfl (hb hby d6_8) (by decide) (by decide) ?_
    show Steps p.tables e below (s₁.setTop (mkF m 12 #[.val (.int p1)] [(.int (1 : Int32))])) _
    exact retN X0 hx (t := .boolean) Bd.returns (by simp) (hb hby d6_12) hr
  · show Q6 Z h0 n0 _ s₁.heap _
    rw [e0]
    exact ⟨rfl, N0, rfl⟩
theorem d7_0 : decode jdk_43_method_46_code 0 = .ok (.iconst 1, 1) := by decide +kernel
theorem d7_1 : decode jdk_43_method_46_code 1 = .ok (.newarray .byte, 2) := by decide +kernel
theorem d7_3 : decode jdk_43_method_46_code 3 = .ok (.dup, 1) := by decide +kernel
theorem d7_4 : decode jdk_43_method_46_code 4 = .ok (.iconst 0, 1) := by decide +kernel
theorem d7_5 : decode jdk_43_method_46_code 5 = .ok (.iload_n 0, 1) := by decide +kernel
theorem d7_6 : decode jdk_43_method_46_code 6 = .ok (.i2b, 1) := by decide +kernel
theorem d7_7 : decode jdk_43_method_46_code 7 = .ok (.bastore, 1) := by decide +kernel
theorem d7_8 : decode jdk_43_method_46_code 8 = .ok (.areturn, 1) := by decide +kernel
theorem pn_7 : plainName "java/lang/StringLatin1" = true := by first | (simp [plainName, overriddenIn]; done) | decide +kernel
def Q7 (Z : State)  (h0 : Heap) (n0 : Nat) (v : Option Value) (h : Heap) (L : List Loc) : Prop := v = some (.ref h0.size) ∧ Fr n0 L ∧ Keep h0 h []
set_option maxRecDepth 65536 in
set_option maxHeartbeats 40000000 in
theorem rm7 (l : Launch) (Z : State) (a0 : Array Value) (hw : ∀ d ∈ tables_1, d.before a0 Z = true) (ws : List Jvm.Cond) (p1 : Int32) (h0 : Heap) (n0 : Nat) (Z0 : n0 ≤ h0.size)  :
    MetFree l (⟨"java/lang/StringLatin1", "toBytes", "(C)[B"⟩ : MethodName) (head1 (Jvm.Cond.code (⟨"java/lang/StringLatin1", "toBytes", "(C)[B"⟩ : MethodName) jdk_43_method_46_code 1 (some (.array .byte)) :: ws) ({ frames := 0, cells := 1, slots := 1, locals := 0 } : Room)) (fun a U => a = #[(.int p1)] ∧ Z.Warmed39 U.vm ∧ U.heap = h0) (fun _ _ _ _ _ => True) (fun _ U o U' => ∃ v L, o = .returned v ∧ Q7 Z  h0 n0 v U'.heap L ∧ FrameEnd U o U' L ({ frames := 0, cells := 1, slots := 1, locals := 0 } : Room).cells ({ frames := 0, cells := 1, slots := 1, locals := 0 } : Room).slots) := by
  refine MetFree.of_bodySF (plainFor_of_name pn_7) hisR ?_
  intro p e s m args below meth c s₁ Bd hml0 hP hK
  obtain ⟨rfl, hZ, hh⟩ := hP
  have hx := Bd.exec
  have hby := Bd.bytes
  have hml : c.maxLocals = 1 := hml0
  have hown : s.vm.findClass "java/lang/StringLatin1" = some m.cls := findClass_of_methodNamed Bd.named
  have hnm := (name_of_methodNamed Bd.named Bd.method).1
  have X0 : Stand p l e ({ frames := 0, cells := 1, slots := 1, locals := 0 } : Room) s m #[(.int p1)] below meth c s₁ [] 0 0 := Stand.of_body Bd
  have e0 : s₁.heap = h0 := by rw [← hh, Bd.state]; rfl
  have N0 := Fr.nil n0
  have pre0 : ∀ t, Steps p.tables e below (s₁.setTop (mkF m 0 #[.val (.int p1)] [])) t → Steps p.tables e below (s₁.setTop (entryFrame m #[(.int p1)] 1)) t := fun t k => castTop (by first | (simp [entryFrame, mkF, argsToLocals, Value.category]; done) | rfl) k
  obtain ⟨T1, h1, k1, X1, e1, E1, A1, st1⟩ := newP X0 hx hZ (hw _ (List.mem_of_getElem? (i := 8) rfl)) e0 (g := (mkF m 1 #[.val (.int p1)] [(.int (1 : Int32))])) rfl (hb hby d7_1) rfl (by decide) (cap := 1) (by decide) (by decide) (by decide) (by decide)
  have V1 : AF Z h1 h0.size .byte 1 (fun _ => .int 0) := AF.new A1 (by decide)
  obtain ⟨c2, Ar2, S2, H2⟩ := V1
  obtain ⟨T2, h2, X2, e2, W2, st2⟩ := stB X1 hx hZ e1 Ar2 (j := (0 : Int32)) (by rw [S2]; decide) (g := (mkF m 7 #[.val (.int p1)] [(.int (p1.toInt8.toInt32)), (.int (0 : Int32)), (.ref h0.size), (.ref h0.size)])) rfl rfl (hb hby d7_7)
  have N2 := Fr.snoc X2 N0 Z0
  have K2 : Keep h0 h2 [] := ((Keep.refl h0 []).ext E1).wr W2 (Or.inr (Nat.le_refl _))
  obtain ⟨fs, hr, hrun, hended, hW, hsame⟩ := X2.leave (v := some (.ref h0.size)) (fun h => by rw [Bd.returns] at h; cases h)
  refine ⟨_, _, pre0 _ ?_, hrun, hended, _, _, rfl, ?_, ⟨_, rfl⟩, hW, hsame.mono (by decide) (by decide)⟩
  · show Steps p.tables e below (s₁.setTop (mkF m 0 #[.val (.int p1)] [])) _
    refine XS.iconst X0.here hx rfl (hb hby d7_0) ?_
    show Steps p.tables e below (s₁.setTop (mkF m 1 #[.val (.int p1)] [(.int (1 : Int32))])) _
    refine st1 _ ?_
    show Steps p.tables e below (T1.setTop (mkF m 3 #[.val (.int p1)] [(.ref h0.size)])) _
    refine XS.dup X1.here hx rfl (hb hby d7_3) rfl rfl ?_
    show Steps p.tables e below (T1.setTop (mkF m 4 #[.val (.int p1)] [(.ref h0.size), (.ref h0.size)])) _
    refine XS.iconst X1.here hx rfl (hb hby d7_4) ?_
    show Steps p.tables e below (T1.setTop (mkF m 5 #[.val (.int p1)] [(.int (0 : Int32)), (.ref h0.size), (.ref h0.size)])) _
    refine XS.iloadN X1.here hx rfl (hb hby d7_5) rfl ?_
    show Steps p.tables e below (T1.setTop (mkF m 6 #[.val (.int p1)] [(.int p1), (.int (0 : Int32)), (.ref h0.size), (.ref h0.size)])) _
    refine XS.i2b X1.here hx rfl (hb hby d7_6) rfl ?_
    show Steps p.tables e below (T1.setTop (mkF m 7 #[.val (.int p1)] [(.int (p1.toInt8.toInt32)), (.int (0 : Int32)), (.ref h0.size), (.ref h0.size)])) _
    refine st2 _ ?_
    show Steps p.tables e below (T2.setTop (mkF m 8 #[.val (.int p1)] [(.ref h0.size)])) _
    jvm_step X2.here [X2.here.top, hx, (hb hby d7_8), X2.method', Bd.returns, Value.isRef, FieldType.isReference]
    first | (intro acts; rw [hr _ acts rfl rfl rfl]) | rw [hr _ _ rfl rfl rfl]
    exact Steps.refl _
  · show Q7 Z h0 n0 _ T2.heap _
    rw [e2]
    exact ⟨rfl, N2, K2⟩
theorem d8_0 : decode jdk_42_method_151_code 0 = .ok (.aload_n 0, 1) := by decide +kernel
theorem d8_1 : decode jdk_42_method_151_code 1 = .ok (.invokespecial 1, 3) := by decide +kernel
theorem d8_4 : decode jdk_42_method_151_code 4 = .ok (.aload_n 0, 1) := by decide +kernel
theorem d8_5 : decode jdk_42_method_151_code 5 = .ok (.aload_n 1, 1) := by decide +kernel
theorem d8_6 : decode jdk_42_method_151_code 6 = .ok (.putfield 9, 3) := by decide +kernel
theorem d8_9 : decode jdk_42_method_151_code 9 = .ok (.aload_n 0, 1) := by decide +kernel
theorem d8_10 : decode jdk_42_method_151_code 10 = .ok (.iload_n 2, 1) := by decide +kernel
theorem d8_11 : decode jdk_42_method_151_code 11 = .ok (.putfield 15, 3) := by decide +kernel
theorem d8_14 : decode jdk_42_method_151_code 14 = .ok (.return_, 1) := by decide +kernel
theorem pn_8 : plainName "java/lang/String" = true := by first | (simp [plainName, overriddenIn]; done) | decide +kernel
def Q8 (Z : State) (a1 : Addr) (h0 : Heap) (n0 : Nat) (v : Option Value) (h : Heap) (L : List Loc) : Prop := v = none ∧ Fr n0 L ∧ Keep h0 h [a1] ∧ Exa Z h a1 "java/lang/String"
set_option maxRecDepth 65536 in
set_option maxHeartbeats 40000000 in
theorem rm8 (l : Launch) (Z : State) (a0 : Array Value) (hw : ∀ d ∈ tables_1, d.before a0 Z = true) (ws : List Jvm.Cond) (a1 a2 : Addr) (uv uc : Value) (h0 : Heap) (n0 : Nat) (Z0 : n0 ≤ h0.size) (g1 : n0 ≤ a1) (E : Exa Z h0 a1 "java/lang/String") (Fv : Fld Z h0 a1 "java/lang/String" "value" "[B" uv) (Fc : Fld Z h0 a1 "java/lang/String" "coder" "B" uc) :
    MetFree l (⟨"java/lang/String", "<init>", "([BB)V"⟩ : MethodName) (head1 (Jvm.Cond.code (⟨"java/lang/String", "<init>", "([BB)V"⟩ : MethodName) jdk_42_method_151_code 3 none :: ws) ({ frames := 1, cells := 0, slots := 0, locals := 12 } : Room)) (fun a U => a = #[(.ref a1), (.ref a2), (.int (0 : Int32))] ∧ Z.Warmed39 U.vm ∧ U.heap = h0) (fun _ _ _ _ _ => True) (fun _ U o U' => ∃ v L, o = .returned v ∧ Q8 Z a1 h0 n0 v U'.heap L ∧ FrameEnd U o U' L ({ frames := 1, cells := 0, slots := 0, locals := 12 } : Room).cells ({ frames := 1, cells := 0, slots := 0, locals := 12 } : Room).slots) := by
  refine MetFree.of_bodySF (plainFor_of_name pn_8) hisR ?_
  intro p e s m args below meth c s₁ Bd hml0 hP hK
  obtain ⟨rfl, hZ, hh⟩ := hP
  have hx := Bd.exec
  have hby := Bd.bytes
  have hml : c.maxLocals = 3 := hml0
  have hown : s.vm.findClass "java/lang/String" = some m.cls := findClass_of_methodNamed Bd.named
  have hnm := (name_of_methodNamed Bd.named Bd.method).1
  have X0 : Stand p l e ({ frames := 1, cells := 0, slots := 0, locals := 12 } : Room) s m #[(.ref a1), (.ref a2), (.int (0 : Int32))] below meth c s₁ [] 0 0 := Stand.of_body Bd
  have e0 : s₁.heap = h0 := by rw [← hh, Bd.state]; rfl
  have N0 := Fr.nil n0
  have pre0 : ∀ t, Steps p.tables e below (s₁.setTop (mkF m 0 #[.val (.ref a1), .val (.ref a2), .val (.int (0 : Int32))] [])) t → Steps p.tables e below (s₁.setTop (entryFrame m #[(.ref a1), (.ref a2), (.int (0 : Int32))] 3)) t := fun t k => castTop (by first | (simp [entryFrame, mkF, argsToLocals, Value.category]; done) | rfl) k
  obtain ⟨T1, X1, e1, st1⟩ := initO X0 hx hZ hown (hw _ (List.mem_of_getElem? (i := 62) rfl)) (hw _ (List.mem_of_getElem? (i := 18) rfl)) (hw _ (List.mem_of_getElem? (i := 19) rfl)) e0 (g := (mkF m 1 #[.val (.ref a1), .val (.ref a2), .val (.int (0 : Int32))] [(.ref a1)])) rfl (by rw [hml]; rfl) rfl (hb hby d8_1) (by decide) (W := 0) (by show 2 * 0 + _ ≤ _; exact Nat.le_of_eq rfl) (by decide)
  obtain ⟨T2, h2, X2, e2, W2, st2⟩ := putF X1 hx hZ hown (host := "") (Or.inl (hw _ (List.mem_of_getElem? (i := 63) rfl))) Via.refl e1 Fv E (Or.inr ⟨(hw _ (List.mem_of_getElem? (i := 9) rfl)), rfl, hnm⟩) (hw _ (List.mem_of_getElem? (i := 7) rfl)) (ty := (.array .byte)) (by decide) rfl rfl (g := (mkF m 6 #[.val (.ref a1), .val (.ref a2), .val (.int (0 : Int32))] [(.ref a2), (.ref a1)])) rfl rfl (hb hby d8_6)
  have N2 := Fr.snoc X2 N0 g1
  obtain ⟨T3, h3, X3, e3, W3, st3⟩ := putFN X2 hx hZ hown (hw _ (List.mem_of_getElem? (i := 64) rfl)) Via.refl e2 (Fc.other W2 (Or.inr (slot_ne (Or.inr (hw _ (List.mem_of_getElem? (i := 10) rfl))) (Or.inr (hw _ (List.mem_of_getElem? (i := 9) rfl))) (by decide) (t := .byte) (t' := (.array .byte)) (by decide) (by decide)))) (E.wr W2) (Or.inr ⟨(hw _ (List.mem_of_getElem? (i := 10) rfl)), rfl, hnm⟩) (hw _ (List.mem_of_getElem? (i := 7) rfl)) (ty := .byte) (v' := .int (0 : Int32)) (by decide) rfl rfl (g := (mkF m 11 #[.val (.ref a1), .val (.ref a2), .val (.int (0 : Int32))] [(.int (0 : Int32)), (.ref a1)])) rfl rfl (hb hby d8_11)
  have N3 := Fr.snoc X3 N2 g1
  have K3 : Keep h0 h3 [a1] := (Keep.of_wr W2).trans (Keep.of_wr W3) (fun x hx => Or.inl hx)
  obtain ⟨fs, hr, hrun, hended, hW, hsame⟩ := X3.leave (v := none) (fun _ => rfl)
  refine ⟨_, _, pre0 _ ?_, hrun, hended, _, _, rfl, ?_, ⟨_, rfl⟩, hW, hsame.mono (by decide) (by decide)⟩
  · show Steps p.tables e below (s₁.setTop (mkF m 0 #[.val (.ref a1), .val (.ref a2), .val (.int (0 : Int32))] [])) _
    refine XS.aloadN X0.here hx rfl (hb hby d8_0) rfl rfl ?_
    show Steps p.tables e below (s₁.setTop (mkF m 1 #[.val (.ref a1), .val (.ref a2), .val (.int (0 : Int32))] [(.ref a1)])) _
    refine st1 _ ?_
    show Steps p.tables e below (T1.setTop (mkF m 4 #[.val (.ref a1), .val (.ref a2), .val (.int (0 : Int32))] [])) _
    refine XS.aloadN X1.here hx rfl (hb hby d8_4) rfl rfl ?_
    show Steps p.tables e below (T1.setTop (mkF m 5 #[.val (.ref a1), .val (.ref a2), .val (.int (0 : Int32))] [(.ref a1)])) _
    refine XS.aloadN X1.here hx rfl (hb hby d8_5) rfl rfl ?_
    show Steps p.tables e below (T1.setTop (mkF m 6 #[.val (.ref a1), .val (.ref a2), .val (.int (0 : Int32))] [(.ref a2), (.ref a1)])) _
    refine st2 _ ?_
    show Steps p.tables e below (T2.setTop (mkF m 9 #[.val (.ref a1), .val (.ref a2), .val (.int (0 : Int32))] [])) _
    refine XS.aloadN X2.here hx rfl (hb hby d8_9) rfl rfl ?_
    show Steps p.tables e below (T2.setTop (mkF m 10 #[.val (.ref a1), .val (.ref a2), .val (.int (0 : Int32))] [(.ref a1)])) _
    refine XS.iloadN X2.here hx rfl (hb hby d8_10) rfl ?_
    show Steps p.tables e below (T2.setTop (mkF m 11 #[.val (.ref a1), .val (.ref a2), .val (.int (0 : Int32))] [(.int (0 : Int32)), (.ref a1)])) _
    refine st3 _ ?_
    show Steps p.tables e below (T3.setTop (mkF m 14 #[.val (.ref a1), .val (.ref a2), .val (.int (0 : Int32))] [])) _
    exact X3.returnOut hx Bd.returns (hb hby d8_14) hr
  · show Q8 Z a1 h0 n0 _ T3.heap _
    rw [e3]
    exact ⟨rfl, N3, K3, (E.wr W2).wr W3⟩
theorem pd_0 : parseMethodDescriptor "(C)Z" = some ⟨[.char], some .boolean⟩ := by decide +kernel
theorem pd_1 : parseMethodDescriptor "(C)[B" = some ⟨[.char], some (.array .byte)⟩ := by decide +kernel
theorem pd_2 : parseMethodDescriptor "([BB)V" = some ⟨[(.array .byte), .byte], none⟩ := by decide +kernel
theorem d5_0 : decode jdk_42_method_139_code 0 = .ok (.getstatic 38, 3) := by decide +kernel
theorem d5_3 : decode jdk_42_method_139_code 3 = .ok (.ifCond .eq 23, 3) := by decide +kernel
theorem d5_6 : decode jdk_42_method_139_code 6 = .ok (.iload_n 0, 1) := by decide +kernel
theorem d5_7 : decode jdk_42_method_139_code 7 = .ok (.invokestatic 1015, 3) := by decide +kernel
theorem d5_10 : decode jdk_42_method_139_code 10 = .ok (.ifCond .eq 16, 3) := by decide +kernel
theorem d5_13 : decode jdk_42_method_139_code 13 = .ok (.new 10, 3) := by decide +kernel
theorem d5_16 : decode jdk_42_method_139_code 16 = .ok (.dup, 1) := by decide +kernel
theorem d5_17 : decode jdk_42_method_139_code 17 = .ok (.iload_n 0, 1) := by decide +kernel
theorem d5_18 : decode jdk_42_method_139_code 18 = .ok (.invokestatic 1018, 3) := by decide +kernel
theorem d5_21 : decode jdk_42_method_139_code 21 = .ok (.iconst 0, 1) := by decide +kernel
theorem d5_22 : decode jdk_42_method_139_code 22 = .ok (.invokespecial 209, 3) := by decide +kernel
theorem d5_25 : decode jdk_42_method_139_code 25 = .ok (.areturn, 1) := by decide +kernel
theorem pn_5 : plainName "java/lang/String" = true := by first | (simp [plainName, overriddenIn]; done) | decide +kernel
def Q5 (Z : State)  (h0 : Heap) (n0 : Nat) (v : Option Value) (h : Heap) (L : List Loc) : Prop := v = some (.ref h0.size) ∧ Fr n0 L ∧ Keep h0 h [] ∧ Exa Z h h0.size "java/lang/String"
set_option maxRecDepth 65536 in
set_option maxHeartbeats 40000000 in
theorem rm5 (l : Launch) (Z : State) (a0 : Array Value) (hw : ∀ d ∈ tables_1, d.before a0 Z = true) (ws : List Jvm.Cond) (p1 w : Int32) (h0 : Heap) (n0 : Nat) (Z0 : n0 ≤ h0.size) (OL : Old Z n0 h0) (O2 : Sta Z Z.heap "java/lang/String" "COMPACT_STRINGS" "Z" (.int w)) (hw0 : ¬ w = (0 : Int32)) (hc : ¬ (255 : Int32) < p1) :
    MetFree l (⟨"java/lang/String", "valueOf", "(C)Ljava/lang/String;"⟩ : MethodName) (head1 (Jvm.Cond.code (⟨"java/lang/String", "valueOf", "(C)Ljava/lang/String;"⟩ : MethodName) jdk_42_method_139_code 1 (some (.object "java/lang/String")) :: ws) ({ frames := 2, cells := 2, slots := 5, locals := 28 } : Room)) (fun a U => a = #[(.int p1)] ∧ Z.Warmed39 U.vm ∧ U.heap = h0) (fun _ _ _ _ _ => True) (fun _ U o U' => ∃ v L, o = .returned v ∧ Q5 Z  h0 n0 v U'.heap L ∧ FrameEnd U o U' L ({ frames := 2, cells := 2, slots := 5, locals := 28 } : Room).cells ({ frames := 2, cells := 2, slots := 5, locals := 28 } : Room).slots) := by
  refine MetFree.of_bodySF (plainFor_of_name pn_5) hisR ?_
  intro p e s m args below meth c s₁ Bd hml0 hP hK
  obtain ⟨rfl, hZ, hh⟩ := hP
  have hx := Bd.exec
  have hby := Bd.bytes
  have hml : c.maxLocals = 1 := hml0
  have hown : s.vm.findClass "java/lang/String" = some m.cls := findClass_of_methodNamed Bd.named
  have hnm := (name_of_methodNamed Bd.named Bd.method).1
  have X0 : Stand p l e ({ frames := 2, cells := 2, slots := 5, locals := 28 } : Room) s m #[(.int p1)] below meth c s₁ [] 0 0 := Stand.of_body Bd
  have e0 : s₁.heap = h0 := by rw [← hh, Bd.state]; rfl
  have N0 := Fr.nil n0
  have pre0 : ∀ t, Steps p.tables e below (s₁.setTop (mkF m 0 #[.val (.int p1)] [])) t → Steps p.tables e below (s₁.setTop (entryFrame m #[(.int p1)] 1)) t := fun t k => castTop (by first | (simp [entryFrame, mkF, argsToLocals, Value.category]; done) | rfl) k
  obtain ⟨T1, X1, e1, st1⟩ := getS2 X0 hx hZ hown (host := "") (Or.inl (hw _ (List.mem_of_getElem? (i := 49) rfl))) Via.refl e0 (own_staK OL O2) (g := (mkF m 0 #[.val (.int p1)] [])) rfl (hb hby d5_0)
  obtain ⟨_, _, ⟨T2, L2, k2, n2⟩, -, X2, ⟨Lc2, hQ2, l2, y2, z2⟩, st2⟩ := Jvm.LawKit.callS X1 hx (y := (⟨"java/lang/StringLatin1", "canEncode", "(C)Z"⟩ : MethodName)) hown (mvT hZ (hw _ (List.mem_of_getElem? (i := 50) rfl))) (mvT hZ (hw _ (List.mem_of_getElem? (i := 51) rfl))) (mvT hZ (hw _ (List.mem_of_getElem? (i := 52) rfl))) (mvT hZ (hw _ (List.mem_of_getElem? (i := 53) rfl))) (by decide) (backOf (W := 0) (rm6 l Z a0 hw [] p1 h0 n0 Z0 hc) hZ (hw _ (List.mem_of_getElem? (i := 53) rfl)) (hw _ (List.mem_of_getElem? (i := 52) rfl)) (by decide) (by decide)) (g := (mkF m 7 #[.val (.int p1)] [(.int p1)])) rfl (by rw [hml]; rfl) (argsL := [(.int p1)]) (rest := []) (lenOf pd_0 rfl) rfl (by show 2 * 0 + _ ≤ _; exact Nat.le_of_eq rfl) (hb hby d5_7) (fun _ _ => ⟨rfl, e1, (by decide : 0 + 0 ≤ _), (by decide : 0 + 0 ≤ _)⟩)
  dsimp only [Pt.U, Pt.locs, Pt.cells, Pt.slots] at X2 l2 y2 z2 st2 hQ2
  subst l2 y2 z2
  obtain ⟨rfl, N2q, e2⟩ := hQ2
  have N2 := Fr.app N0 N2q
  obtain ⟨T3, h3, X3, e3, E3, A3, D3, -, st3⟩ := newO X2 hx hZ hown (hw _ (List.mem_of_getElem? (i := 54) rfl)) (hw _ (List.mem_of_getElem? (i := 7) rfl)) (hw _ (List.mem_of_getElem? (i := 6) rfl)) e2 (g := (mkF m 13 #[.val (.int p1)] [])) rfl (hb hby d5_13) (by decide) (by decide)
  have Fv3 : Fld Z h3 h0.size "java/lang/String" "value" "[B" .null := D3 (Or.inr (hw _ (List.mem_of_getElem? (i := 9) rfl))) (ty := (.array .byte)) (by decide)
  have Fc3 : Fld Z h3 h0.size "java/lang/String" "coder" "B" (.int (0 : Int32)) := D3 (Or.inr (hw _ (List.mem_of_getElem? (i := 10) rfl))) (ty := .byte) (by decide)
  have Z3 : n0 ≤ h3.size := Nat.le_trans Z0 E3.1
  obtain ⟨_, _, ⟨T4, L4, k4, n4⟩, -, X4, ⟨Lc4, hQ4, l4, y4, z4⟩, st4⟩ := Jvm.LawKit.callS X3 hx (y := (⟨"java/lang/StringLatin1", "toBytes", "(C)[B"⟩ : MethodName)) hown (mvT hZ (hw _ (List.mem_of_getElem? (i := 55) rfl))) (mvT hZ (hw _ (List.mem_of_getElem? (i := 56) rfl))) (mvT hZ (hw _ (List.mem_of_getElem? (i := 52) rfl))) (mvT hZ (hw _ (List.mem_of_getElem? (i := 57) rfl))) (by decide) (backOf (W := 2) (rm7 l Z a0 hw [] p1 h3 n0 Z3) hZ (hw _ (List.mem_of_getElem? (i := 57) rfl)) (hw _ (List.mem_of_getElem? (i := 52) rfl)) (by decide) (by decide)) (g := (mkF m 18 #[.val (.int p1)] [(.int p1), (.ref h0.size), (.ref h0.size)])) rfl (by rw [hml]; rfl) (argsL := [(.int p1)]) (rest := [(.ref h0.size), (.ref h0.size)]) (lenOf pd_1 rfl) rfl (by show 2 * 0 + _ ≤ _; exact Nat.le_of_eq rfl) (hb hby d5_18) (fun _ _ => ⟨rfl, e3, (by decide : 1 + 1 ≤ _), (by decide : 4 + 1 ≤ _)⟩)
  dsimp only [Pt.U, Pt.locs, Pt.cells, Pt.slots] at X4 l4 y4 z4 st4 hQ4
  subst l4 y4 z4
  obtain ⟨rfl, N4q, K4⟩ := hQ4
  have N4 := Fr.app N2 N4q
  have e4 : T4.heap = T4.heap := rfl
  have Z4 : n0 ≤ T4.heap.size := Nat.le_trans Z3 K4.1
  obtain ⟨_, _, ⟨T5, L5, k5, n5⟩, -, X5, ⟨Lc5, hQ5, l5, y5, z5⟩, st5⟩ := X4.specialBack hx (y := (⟨"java/lang/String", "<init>", "([BB)V"⟩ : MethodName)) rfl hown (mvT hZ (hw _ (List.mem_of_getElem? (i := 58) rfl))) (mvT hZ (hw _ (List.mem_of_getElem? (i := 59) rfl))) (mvT hZ (hw _ (List.mem_of_getElem? (i := 61) rfl))) (by decide) (backOf (W := 1) (rm8 l Z a0 hw [] h0.size h3.size _ _ T4.heap n0 Z4 Z0 (A3.keep K4) (Fv3.keep K4 nin0) (Fc3.keep K4 nin0)) hZ (hw _ (List.mem_of_getElem? (i := 61) rfl)) (hw _ (List.mem_of_getElem? (i := 6) rfl)) (by decide) (by decide)) (g := (mkF m 22 #[.val (.int p1)] [(.int (0 : Int32)), (.ref h3.size), (.ref h0.size), (.ref h0.size)])) rfl (by rw [hml]; rfl) (Steps.refl _) (a := h0.size) (argsL := [(.ref h3.size), (.int (0 : Int32))]) (rest := [(.ref h0.size)]) (lenOf pd_2 rfl) rfl (by show 2 * 0 + _ ≤ _; exact Nat.le_of_eq rfl) (hb hby d5_22) (fun _ _ => ⟨rfl, e4, (by decide : 1 + 1 + 0 ≤ _), (by decide : 4 + 1 + 0 ≤ _)⟩)
  dsimp only [Pt.U, Pt.locs, Pt.cells, Pt.slots] at X5 l5 y5 z5 st5 hQ5
  subst l5 y5 z5
  obtain ⟨rfl, N5q, K5, E5⟩ := hQ5
  have N5 := Fr.app N4 N5q
  obtain ⟨fs, hr, hrun, hended, hW, hsame⟩ := X5.leave (v := some (.ref h0.size)) (fun h => by rw [Bd.returns] at h; cases h)
  refine ⟨_, _, pre0 _ ?_, hrun, hended, _, _, rfl, ?_, ⟨_, rfl⟩, hW, hsame.mono (by decide) (by decide)⟩
  · show Steps p.tables e below (s₁.setTop (mkF m 0 #[.val (.int p1)] [])) _
    refine st1 _ ?_
    show Steps p.tables e below (T1.setTop (mkF m 3 #[.val (.int p1)] [(.int w)])) _
    refine XS.ifNo X1.here hx rfl (hb hby d5_3) rfl ((if0 _ _).trans (feq hw0).1) ?_
    show Steps p.tables e below (T1.setTop (mkF m 6 #[.val (.int p1)] [])) _
    refine XS.iloadN X1.here hx rfl (hb hby d5_6) rfl ?_
    show Steps p.tables e below (T1.setTop (mkF m 7 #[.val (.int p1)] [(.int p1)])) _
    refine st2 _ ?_
    show Steps p.tables e below (T2.setTop (mkF m 10 #[.val (.int p1)] [(.int (1 : Int32))])) _
    refine XS.ifNo X2.here hx rfl (hb hby d5_10) rfl ((if0 _ _).trans (feq (by decide)).1) ?_
    show Steps p.tables e below (T2.setTop (mkF m 13 #[.val (.int p1)] [])) _
    refine st3 _ ?_
    show Steps p.tables e below (T3.setTop (mkF m 16 #[.val (.int p1)] [(.ref h0.size)])) _
    refine XS.dup X3.here hx rfl (hb hby d5_16) rfl rfl ?_
    show Steps p.tables e below (T3.setTop (mkF m 17 #[.val (.int p1)] [(.ref h0.size), (.ref h0.size)])) _
    refine XS.iloadN X3.here hx rfl (hb hby d5_17) rfl ?_
    show Steps p.tables e below (T3.setTop (mkF m 18 #[.val (.int p1)] [(.int p1), (.ref h0.size), (.ref h0.size)])) _
    refine st4 _ ?_
    show Steps p.tables e below (T4.setTop (mkF m 21 #[.val (.int p1)] [(.ref h3.size), (.ref h0.size), (.ref h0.size)])) _
    refine XS.iconst X4.here hx rfl (hb hby d5_21) ?_
    show Steps p.tables e below (T4.setTop (mkF m 22 #[.val (.int p1)] [(.int (0 : Int32)), (.ref h3.size), (.ref h0.size), (.ref h0.size)])) _
    refine st5.trans ?_
    show Steps p.tables e below (T5.setTop (mkF m 25 #[.val (.int p1)] [(.ref h0.size)])) _
    jvm_step X5.here [X5.here.top, hx, (hb hby d5_25), X5.method', Bd.returns, Value.isRef, FieldType.isReference]
    first | (intro acts; rw [hr _ acts rfl rfl rfl]) | rw [hr _ _ rfl rfl rfl]
    exact Steps.refl _
  · show Q5 Z h0 n0 _ T5.heap _
    exact ⟨rfl, N5, (((Keep.refl h0 []).ext E3).trans K4 all0).trans K5 (allS (Or.inr (Nat.le_refl _)) all0), E5⟩
theorem d1_0 : decode prog_1_method_1_code 0 = .ok (.aload_n 0, 1) := by decide +kernel
theorem d1_1 : decode prog_1_method_1_code 1 = .ok (.invokespecial 1, 3) := by decide +kernel
theorem d1_4 : decode prog_1_method_1_code 4 = .ok (.aload_n 0, 1) := by decide +kernel
theorem d1_5 : decode prog_1_method_1_code 5 = .ok (.aload_n 1, 1) := by decide +kernel
theorem d1_6 : decode prog_1_method_1_code 6 = .ok (.putfield 7, 3) := by decide +kernel
theorem d1_9 : decode prog_1_method_1_code 9 = .ok (.aload_n 0, 1) := by decide +kernel
theorem d1_10 : decode prog_1_method_1_code 10 = .ok (.aload_n 2, 1) := by decide +kernel
theorem d1_11 : decode prog_1_method_1_code 11 = .ok (.putfield 13, 3) := by decide +kernel
theorem d1_14 : decode prog_1_method_1_code 14 = .ok (.aload_n 0, 1) := by decide +kernel
theorem d1_15 : decode prog_1_method_1_code 15 = .ok (.aload_n 3, 1) := by decide +kernel
theorem d1_16 : decode prog_1_method_1_code 16 = .ok (.invokevirtual 16, 3) := by decide +kernel
theorem d1_19 : decode prog_1_method_1_code 19 = .ok (.checkcast 17, 3) := by decide +kernel
theorem d1_22 : decode prog_1_method_1_code 22 = .ok (.putfield 22, 3) := by decide +kernel
theorem d1_25 : decode prog_1_method_1_code 25 = .ok (.return_, 1) := by decide +kernel
theorem pn_1 : plainName "com/example/graphweave/graphweave/Arguments" = true := by first | (simp [plainName, overriddenIn]; done) | decide +kernel
def Q1 (Z : State) (a1 : Addr) (n : Nat) (S : Nat → Addr) (h0 : Heap) (n0 : Nat) (v : Option Value) (h : Heap) (L : List Loc) : Prop := v = none ∧ Fr n0 L ∧ Keep h0 h [a1] ∧ Exa Z h a1 "com/example/graphweave/graphweave/Arguments" ∧ Fld Z h a1 "com/example/graphweave/graphweave/Arguments" "next" "I" (.int (0 : Int32)) ∧ ∃ b : Addr, b ≠ a1 ∧ Fld Z h a1 "com/example/graphweave/graphweave/Arguments" "args" "[Ljava/lang/String;" (.ref b) ∧ AF Z h b (.object "java/lang/String") n (fun j => .ref (S j))
set_option maxRecDepth 65536 in
set_option maxHeartbeats 40000000 in
theorem rm1 (l : Launch) (Z : State) (a0 : Array Value) (hw : ∀ d ∈ tables_1, d.before a0 Z = true) (ws : List Jvm.Cond) (a1 a2 a3 a4 : Addr) (n : Nat) (S : Nat → Addr) (uc uu ua : Value) (h0 : Heap) (n0 : Nat) (Z0 : n0 ≤ h0.size) (g1 : n0 ≤ a1) (E : Exa Z h0 a1 "com/example/graphweave/graphweave/Arguments") (Fc : Fld Z h0 a1 "com/example/graphweave/graphweave/Arguments" "command" "Ljava/lang/String;" uc) (Fu : Fld Z h0 a1 "com/example/graphweave/graphweave/Arguments" "usage" "Ljava/lang/String;" uu) (Fa : Fld Z h0 a1 "com/example/graphweave/graphweave/Arguments" "args" "[Ljava/lang/String;" ua) (Fn : Fld Z h0 a1 "com/example/graphweave/graphweave/Arguments" "next" "I" (.int (0 : Int32))) (VA : AF Z h0 a4 (.object "java/lang/String") n (fun j => .ref (S j))) (EA : Exa Z h0 a4 "[Ljava/lang/String;") (ne : a4 ≠ a1) (hn : n ≤ 3) :
    MetFree l (⟨"com/example/graphweave/graphweave/Arguments", "<init>", "(Ljava/lang/String;Ljava/lang/String;[Ljava/lang/String;)V"⟩ : MethodName) (head1 (Jvm.Cond.code (⟨"com/example/graphweave/graphweave/Arguments", "<init>", "(Ljava/lang/String;Ljava/lang/String;[Ljava/lang/String;)V"⟩ : MethodName) prog_1_method_1_code 4 none :: ws) ({ frames := 1, cells := 1, slots := 3, locals := 15 } : Room)) (fun a U => a = #[(.ref a1), (.ref a2), (.ref a3), (.ref a4)] ∧ Z.Warmed39 U.vm ∧ U.heap = h0) (fun _ _ _ _ _ => True) (fun _ U o U' => ∃ v L, o = .returned v ∧ Q1 Z a1 n S h0 n0 v U'.heap L ∧ FrameEnd U o U' L ({ frames := 1, cells := 1, slots := 3, locals := 15 } : Room).cells ({ frames := 1, cells := 1, slots := 3, locals := 15 } : Room).slots) := by
  refine MetFree.of_bodySF (plainFor_of_name pn_1) hisR ?_
  intro p e s m args below meth c s₁ Bd hml0 hP hK
  obtain ⟨rfl, hZ, hh⟩ := hP
  have hx := Bd.exec
  have hby := Bd.bytes
  have hml : c.maxLocals = 4 := hml0
  have hown : s.vm.findClass "com/example/graphweave/graphweave/Arguments" = some m.cls := findClass_of_methodNamed Bd.named
  have hnm := (name_of_methodNamed Bd.named Bd.method).1
  have X0 : Stand p l e ({ frames := 1, cells := 1, slots := 3, locals := 15 } : Room) s m #[(.ref a1), (.ref a2), (.ref a3), (.ref a4)] below meth c s₁ [] 0 0 := Stand.of_body Bd
  have e0 : s₁.heap = h0 := by rw [← hh, Bd.state]; rfl
  have N0 := Fr.nil n0
  have pre0 : ∀ t, Steps p.tables e below (s₁.setTop (mkF m 0 #[.val (.ref a1), .val (.ref a2), .val (.ref a3), .val (.ref a4)] [])) t → Steps p.tables e below (s₁.setTop (entryFrame m #[(.ref a1), (.ref a2), (.ref a3), (.ref a4)] 4)) t := fun t k => castTop (by first | (simp [entryFrame, mkF, argsToLocals, Value.category]; done) | rfl) k
  obtain ⟨T1, X1, e1, st1⟩ := initO X0 hx hZ hown (hw _ (List.mem_of_getElem? (i := 17) rfl)) (hw _ (List.mem_of_getElem? (i := 18) rfl)) (hw _ (List.mem_of_getElem? (i := 19) rfl)) e0 (g := (mkF m 1 #[.val (.ref a1), .val (.ref a2), .val (.ref a3), .val (.ref a4)] [(.ref a1)])) rfl (by rw [hml]; rfl) rfl (hb hby d1_1) (by decide) (W := 0) (by show 2 * 0 + _ ≤ _; exact Nat.le_of_eq rfl) (by decide)
  obtain ⟨T2, h2, X2, e2, W2, st2⟩ := putF X1 hx hZ hown (host := "") (Or.inl (hw _ (List.mem_of_getElem? (i := 20) rfl))) Via.refl e1 Fc E (Or.inr ⟨(hw _ (List.mem_of_getElem? (i := 21) rfl)), rfl, hnm⟩) (hw _ (List.mem_of_getElem? (i := 3) rfl)) (ty := (.object "java/lang/String")) (by decide) rfl rfl (g := (mkF m 6 #[.val (.ref a1), .val (.ref a2), .val (.ref a3), .val (.ref a4)] [(.ref a2), (.ref a1)])) rfl rfl (hb hby d1_6)
  have N2 := Fr.snoc X2 N0 g1
  have Fu2 := Fu.other W2 (Or.inr (slot_ne (Or.inr (hw _ (List.mem_of_getElem? (i := 23) rfl))) (Or.inr (hw _ (List.mem_of_getElem? (i := 21) rfl))) (by decide) (t := (.object "java/lang/String")) (t' := (.object "java/lang/String")) (by decide) (by decide)))
  have Fa2 := Fa.other W2 (Or.inr (slot_ne (Or.inr (hw _ (List.mem_of_getElem? (i := 34) rfl))) (Or.inr (hw _ (List.mem_of_getElem? (i := 21) rfl))) (by decide) (t := (.array (.object "java/lang/String"))) (t' := (.object "java/lang/String")) (by decide) (by decide)))
  have Fn2 := Fn.other W2 (Or.inr (slot_ne (Or.inl (hw _ (List.mem_of_getElem? (i := 45) rfl))) (Or.inr (hw _ (List.mem_of_getElem? (i := 21) rfl))) (by decide) (t := .int) (t' := (.object "java/lang/String")) (by decide) (by decide)))
  have E2 := E.wr W2
  have V2 := VA.other W2 ne
  have EA2 := EA.wr W2
  obtain ⟨T3, h3, X3, e3, W3, st3⟩ := putF X2 hx hZ hown (host := "") (Or.inl (hw _ (List.mem_of_getElem? (i := 22) rfl))) Via.refl e2 Fu2 E2 (Or.inr ⟨(hw _ (List.mem_of_getElem? (i := 23) rfl)), rfl, hnm⟩) (hw _ (List.mem_of_getElem? (i := 3) rfl)) (ty := (.object "java/lang/String")) (by decide) rfl rfl (g := (mkF m 11 #[.val (.ref a1), .val (.ref a2), .val (.ref a3), .val (.ref a4)] [(.ref a3), (.ref a1)])) rfl rfl (hb hby d1_11)
  have N3 := Fr.snoc X3 N2 g1
  have Fa3 := Fa2.other W3 (Or.inr (slot_ne (Or.inr (hw _ (List.mem_of_getElem? (i := 34) rfl))) (Or.inr (hw _ (List.mem_of_getElem? (i := 23) rfl))) (by decide) (t := (.array (.object "java/lang/String"))) (t' := (.object "java/lang/String")) (by decide) (by decide)))
  have Fn3 := Fn2.other W3 (Or.inr (slot_ne (Or.inl (hw _ (List.mem_of_getElem? (i := 45) rfl))) (Or.inr (hw _ (List.mem_of_getElem? (i := 23) rfl))) (by decide) (t := .int) (t' := (.object "java/lang/String")) (by decide) (by decide)))
  have E3 := E2.wr W3
  have V3 := V2.other W3 ne
  have EA3 := EA2.wr W3
  have K3 : Keep h0 h3 [a1] := (Keep.of_wr W2).trans (Keep.of_wr W3) (fun x hx => Or.inl hx)
  obtain ⟨cA, ArA, SA, HA⟩ := V3
  have FC : FitC Z cA := fitC_of ArA fun i hi v hv => by
    rw [HA i (by rw [← SA]; exact hi)] at hv; cases hv; rfl
  obtain ⟨T4, h4, X4, e4, E4, A4, Ex4, st4⟩ := cloneA X3 hx hZ hown (hw _ (List.mem_of_getElem? (i := 24) rfl)) (hw _ (List.mem_of_getElem? (i := 25) rfl)) (hw _ (List.mem_of_getElem? (i := 29) rfl)) (hw _ (List.mem_of_getElem? (i := 27) rfl)) (hw _ (List.mem_of_getElem? (i := 28) rfl)) (hw _ (List.mem_of_getElem? (i := 30) rfl)) e3 ArA EA3 FC (g := (mkF m 16 #[.val (.ref a1), .val (.ref a2), .val (.ref a3), .val (.ref a4)] [(.ref a4), (.ref a1)])) rfl (by rw [hml]; rfl) rfl (hb hby d1_16) (by decide) (W := 1) (cap := 3) (by show 2 * 0 + _ ≤ _; exact Nat.le_of_eq rfl) (by decide) (by rw [SA]; exact hn) (by decide) (by decide)
  have V4 : AF Z h4 h3.size (.object "java/lang/String") n (fun j => .ref (S j)) := ⟨_, A4, SA, HA⟩
  obtain ⟨T5, X5, e5, st5⟩ := castY X4 hx hZ hown (hw _ (List.mem_of_getElem? (i := 31) rfl)) e4 (Ins.self Ex4) (g := (mkF m 19 #[.val (.ref a1), .val (.ref a2), .val (.ref a3), .val (.ref a4)] [(.ref h3.size), (.ref a1)])) rfl rfl (hb hby d1_19)
  obtain ⟨T6, h6, X6, e6, W6, st6⟩ := putF X5 hx hZ hown (host := "") (Or.inl (hw _ (List.mem_of_getElem? (i := 33) rfl))) Via.refl e5 (Fa3.ext E4) (E3.ext E4) (Or.inr ⟨(hw _ (List.mem_of_getElem? (i := 34) rfl)), rfl, hnm⟩) (hw _ (List.mem_of_getElem? (i := 3) rfl)) (ty := (.array (.object "java/lang/String"))) (by decide) rfl rfl (g := (mkF m 22 #[.val (.ref a1), .val (.ref a2), .val (.ref a3), .val (.ref a4)] [(.ref h3.size), (.ref a1)])) rfl rfl (hb hby d1_22)
  have N6 := Fr.snoc X6 N3 g1
  have Fa6 := (Fa3.ext E4).same W6
  have Fn6 := (Fn3.ext E4).other W6 (Or.inr (slot_ne (Or.inl (hw _ (List.mem_of_getElem? (i := 45) rfl))) (Or.inr (hw _ (List.mem_of_getElem? (i := 34) rfl))) (by decide) (t := .int) (t' := (.array (.object "java/lang/String"))) (by decide) (by decide)))
  have neb : h3.size ≠ a1 := Nat.ne_of_gt E3.lt
  have V6 := V4.other W6 neb
  have K6 : Keep h0 h6 [a1] := (K3.ext E4).wr W6 (Or.inl (List.mem_of_getElem? (i := 0) rfl))
  obtain ⟨fs, hr, hrun, hended, hW, hsame⟩ := X6.leave (v := none) (fun _ => rfl)
  refine ⟨_, _, pre0 _ ?_, hrun, hended, _, _, rfl, ?_, ⟨_, rfl⟩, hW, hsame.mono (by decide) (by decide)⟩
  · show Steps p.tables e below (s₁.setTop (mkF m 0 #[.val (.ref a1), .val (.ref a2), .val (.ref a3), .val (.ref a4)] [])) _
    refine XS.aloadN X0.here hx rfl (hb hby d1_0) rfl rfl ?_
    show Steps p.tables e below (s₁.setTop (mkF m 1 #[.val (.ref a1), .val (.ref a2), .val (.ref a3), .val (.ref a4)] [(.ref a1)])) _
    refine st1 _ ?_
    show Steps p.tables e below (T1.setTop (mkF m 4 #[.val (.ref a1), .val (.ref a2), .val (.ref a3), .val (.ref a4)] [])) _
    refine XS.aloadN X1.here hx rfl (hb hby d1_4) rfl rfl ?_
    show Steps p.tables e below (T1.setTop (mkF m 5 #[.val (.ref a1), .val (.ref a2), .val (.ref a3), .val (.ref a4)] [(.ref a1)])) _
    refine XS.aloadN X1.here hx rfl (hb hby d1_5) rfl rfl ?_
    show Steps p.tables e below (T1.setTop (mkF m 6 #[.val (.ref a1), .val (.ref a2), .val (.ref a3), .val (.ref a4)] [(.ref a2), (.ref a1)])) _
    refine st2 _ ?_
    show Steps p.tables e below (T2.setTop (mkF m 9 #[.val (.ref a1), .val (.ref a2), .val (.ref a3), .val (.ref a4)] [])) _
    refine XS.aloadN X2.here hx rfl (hb hby d1_9) rfl rfl ?_
    show Steps p.tables e below (T2.setTop (mkF m 10 #[.val (.ref a1), .val (.ref a2), .val (.ref a3), .val (.ref a4)] [(.ref a1)])) _
    refine XS.aloadN X2.here hx rfl (hb hby d1_10) rfl rfl ?_
    show Steps p.tables e below (T2.setTop (mkF m 11 #[.val (.ref a1), .val (.ref a2), .val (.ref a3), .val (.ref a4)] [(.ref a3), (.ref a1)])) _
    refine st3 _ ?_
    show Steps p.tables e below (T3.setTop (mkF m 14 #[.val (.ref a1), .val (.ref a2), .val (.ref a3), .val (.ref a4)] [])) _
    refine XS.aloadN X3.here hx rfl (hb hby d1_14) rfl rfl ?_
    show Steps p.tables e below (T3.setTop (mkF m 15 #[.val (.ref a1), .val (.ref a2), .val (.ref a3), .val (.ref a4)] [(.ref a1)])) _
    refine XS.aloadN X3.here hx rfl (hb hby d1_15) rfl rfl ?_
    show Steps p.tables e below (T3.setTop (mkF m 16 #[.val (.ref a1), .val (.ref a2), .val (.ref a3), .val (.ref a4)] [(.ref a4), (.ref a1)])) _
    refine st4 _ ?_
    show Steps p.tables e below (T4.setTop (mkF m 19 #[.val (.ref a1), .val (.ref a2), .val (.ref a3), .val (.ref a4)] [(.ref h3.size), (.ref a1)])) _
    refine st5 _ ?_
    show Steps p.tables e below (T5.setTop (mkF m 22 #[.val (.ref a1), .val (.ref a2), .val (.ref a3), .val (.ref a4)] [(.ref h3.size), (.ref a1)])) _
    refine st6 _ ?_
    show Steps p.tables e below (T6.setTop (mkF m 25 #[.val (.ref a1), .val (.ref a2), .val (.ref a3), .val (.ref a4)] [])) _
    exact X6.returnOut hx Bd.returns (hb hby d1_25) hr
  · show Q1 Z a1 n S h0 n0 _ T6.heap _
    rw [e6]
    exact ⟨rfl, N6, K6, (E3.ext E4).wr W6, Fn6, h3.size, neb, Fa6, V6⟩
theorem pd_3 : parseMethodDescriptor "()Z" = some ⟨[], some .boolean⟩ := by decide +kernel
theorem pd_4 : parseMethodDescriptor "()Ljava/lang/String;" = some ⟨[], some (.object "java/lang/String")⟩ := by decide +kernel
theorem pd_5 : parseMethodDescriptor "(Ljava/lang/Object;)Z" = some ⟨[(.object "java/lang/Object")], some .boolean⟩ := by decide +kernel
theorem d3_0 : decode method_2_code 0 = .ok (.aload_n 0, 1) := by decide +kernel
theorem d3_1 : decode method_2_code 1 = .ok (.invokevirtual 7, 3) := by decide +kernel
theorem d3_4 : decode method_2_code 4 = .ok (.istore 4, 2) := by decide +kernel
theorem d3_6 : decode method_2_code 6 = .ok (.aload_n 0, 1) := by decide +kernel
theorem d3_7 : decode method_2_code 7 = .ok (.invokevirtual 7, 3) := by decide +kernel
theorem d3_10 : decode method_2_code 10 = .ok (.istore 5, 2) := by decide +kernel
theorem d3_12 : decode method_2_code 12 = .ok (.iload 4, 2) := by decide +kernel
theorem d3_14 : decode method_2_code 14 = .ok (.iload 5, 2) := by decide +kernel
theorem d3_16 : decode method_2_code 16 = .ok (.if_icmp .eq 5, 3) := by decide +kernel
theorem d3_21 : decode method_2_code 21 = .ok (.iload 4, 2) := by decide +kernel
theorem d3_23 : decode method_2_code 23 = .ok (.iload_n 2, 1) := by decide +kernel
theorem d3_24 : decode method_2_code 24 = .ok (.iload_n 3, 1) := by decide +kernel
theorem d3_25 : decode method_2_code 25 = .ok (.if_icmp .ge 7, 3) := by decide +kernel
theorem d3_28 : decode method_2_code 28 = .ok (.iconst 1, 1) := by decide +kernel
theorem d3_29 : decode method_2_code 29 = .ok (.goto 4, 3) := by decide +kernel
theorem d3_33 : decode method_2_code 33 = .ok (.if_icmp .eq 5, 3) := by decide +kernel
theorem d3_38 : decode method_2_code 38 = .ok (.iload 4, 2) := by decide +kernel
theorem d3_40 : decode method_2_code 40 = .ok (.ifCond .eq 31, 3) := by decide +kernel
theorem d3_43 : decode method_2_code 43 = .ok (.aload_n 0, 1) := by decide +kernel
theorem d3_44 : decode method_2_code 44 = .ok (.invokevirtual 13, 3) := by decide +kernel
theorem d3_47 : decode method_2_code 47 = .ok (.astore 6, 2) := by decide +kernel
theorem d3_49 : decode method_2_code 49 = .ok (.aload 6, 2) := by decide +kernel
theorem d3_51 : decode method_2_code 51 = .ok (.ifnull 18, 3) := by decide +kernel
theorem d3_54 : decode method_2_code 54 = .ok (.aload 6, 2) := by decide +kernel
theorem d3_56 : decode method_2_code 56 = .ok (.aload_n 1, 1) := by decide +kernel
theorem d3_57 : decode method_2_code 57 = .ok (.iload_n 2, 1) := by decide +kernel
theorem d3_58 : decode method_2_code 58 = .ok (.aaload, 1) := by decide +kernel
theorem d3_59 : decode method_2_code 59 = .ok (.invokevirtual 17, 3) := by decide +kernel
theorem d3_62 : decode method_2_code 62 = .ok (.ifCond .eq 7, 3) := by decide +kernel
theorem d3_65 : decode method_2_code 65 = .ok (.iconst 1, 1) := by decide +kernel
theorem d3_66 : decode method_2_code 66 = .ok (.goto 4, 3) := by decide +kernel
theorem d3_70 : decode method_2_code 70 = .ok (.ireturn, 1) := by decide +kernel
theorem pn_3lt : plainName "com/example/graphweave/graphweave/ArgumentsHasNextPinLaw" = true := by first | (simp [plainName, overriddenIn]; done) | decide +kernel
def Q3lt (Z : State) (a1 aa : Addr) (i : Nat) (h0 : Heap) (n0 : Nat) (v : Option Value) (h : Heap) (L : List Loc) : Prop := v = some (.int (1 : Int32)) ∧ Fr n0 L ∧ Keep h0 h [a1] ∧ Fld Z h a1 "com/example/graphweave/graphweave/Arguments" "next" "I" (.int (Int32.ofNat (i + 1))) ∧ Fld Z h a1 "com/example/graphweave/graphweave/Arguments" "args" "[Ljava/lang/String;" (.ref aa)
set_option maxRecDepth 65536 in
set_option maxHeartbeats 40000000 in
theorem rm3lt (l : Launch) (Z : State) (a0 : Array Value) (hw : ∀ d ∈ tables_1, d.before a0 Z = true) (ws : List Jvm.Cond) (a1 a2 aa : Addr) (i n : Nat) (S : Nat → Addr) (h0 : Heap) (n0 : Nat) (Z0 : n0 ≤ h0.size) (E : Exa Z h0 a1 "com/example/graphweave/graphweave/Arguments") (Fn : Fld Z h0 a1 "com/example/graphweave/graphweave/Arguments" "next" "I" (.int (Int32.ofNat i))) (Fa : Fld Z h0 a1 "com/example/graphweave/graphweave/Arguments" "args" "[Ljava/lang/String;" (.ref aa)) (VA : AF Z h0 aa (.object "java/lang/String") n (fun j => .ref (S j))) (VR : AF Z h0 a2 (.object "java/lang/String") n (fun j => .ref (S j))) (ES : ∀ j, j < n → Exa Z h0 (S j) "java/lang/String") (ne : aa ≠ a1) (ne2 : a2 ≠ a1) (g1 : n0 ≤ a1) (hn : n ≤ 3) (hi : i ≤ 3) (hin : i < n) :
    MetFree l (⟨"com/example/graphweave/graphweave/ArgumentsHasNextPinLaw", "step", "(Lcom/example/graphweave/graphweave/Arguments;[Ljava/lang/String;II)Z"⟩ : MethodName) (head1 (Jvm.Cond.code (⟨"com/example/graphweave/graphweave/ArgumentsHasNextPinLaw", "step", "(Lcom/example/graphweave/graphweave/Arguments;[Ljava/lang/String;II)Z"⟩ : MethodName) method_2_code 7 (some .boolean) :: ws) ({ frames := 1, cells := 0, slots := 0, locals := 14 } : Room)) (fun a U => a = #[(.ref a1), (.ref a2), (.int (Int32.ofNat i)), (.int (Int32.ofNat n))] ∧ Z.Warmed39 U.vm ∧ U.heap = h0) (fun _ _ _ _ _ => True) (fun _ U o U' => ∃ v L, o = .returned v ∧ Q3lt Z a1 aa i h0 n0 v U'.heap L ∧ FrameEnd U o U' L ({ frames := 1, cells := 0, slots := 0, locals := 14 } : Room).cells ({ frames := 1, cells := 0, slots := 0, locals := 14 } : Room).slots) := by
  refine MetFree.of_bodySF (plainFor_of_name pn_3lt) hisR ?_
  intro p e s m args below meth c s₁ Bd hml0 hP hK
  obtain ⟨rfl, hZ, hh⟩ := hP
  have hx := Bd.exec
  have hby := Bd.bytes
  have hml : c.maxLocals = 7 := hml0
  have hown : s.vm.findClass "com/example/graphweave/graphweave/ArgumentsHasNextPinLaw" = some m.cls := findClass_of_methodNamed Bd.named
  have hnm := (name_of_methodNamed Bd.named Bd.method).1
  have X0 : Stand p l e ({ frames := 1, cells := 0, slots := 0, locals := 14 } : Room) s m #[(.ref a1), (.ref a2), (.int (Int32.ofNat i)), (.int (Int32.ofNat n))] below meth c s₁ [] 0 0 := Stand.of_body Bd
  have e0 : s₁.heap = h0 := by rw [← hh, Bd.state]; rfl
  have N0 := Fr.nil n0
  have pre0 : ∀ t, Steps p.tables e below (s₁.setTop (mkF m 0 #[.val (.ref a1), .val (.ref a2), .val (.int (Int32.ofNat i)), .val (.int (Int32.ofNat n)), .unset, .unset, .unset] [])) t → Steps p.tables e below (s₁.setTop (entryFrame m #[(.ref a1), (.ref a2), (.int (Int32.ofNat i)), (.int (Int32.ofNat n))] 7)) t := fun t k => castTop (by first | (simp [entryFrame, mkF, argsToLocals, Value.category]; done) | rfl) k
  obtain ⟨cA, ArA, SA, HA⟩ := VA
  obtain ⟨cq1, kq1, q1a, q1b, q1c⟩ := isOf hZ e0 E
  obtain ⟨_, _, ⟨T1, L1, k1, n1⟩, -, X1, ⟨Lc1, hQ1, l1, y1, z1⟩, st1⟩ := X0.virtualBack hx (y := (⟨"com/example/graphweave/graphweave/Arguments", "hasNext", "()Z"⟩ : MethodName)) (z := (⟨"com/example/graphweave/graphweave/Arguments", "hasNext", "()Z"⟩ : MethodName)) hown (mvT hZ (hw _ (List.mem_of_getElem? (i := 39) rfl))) (mvT hZ (hw _ (List.mem_of_getElem? (i := 40) rfl))) (notFace_of_selects (args := #[]) (mvT hZ (hw _ (List.mem_of_getElem? (i := 42) rfl)))) (mvT hZ (hw _ (List.mem_of_getElem? (i := 42) rfl))) (mvT hZ (hw _ (List.mem_of_getElem? (i := 41) rfl))) (by decide) (backOf (W := 0) (rm4lt l Z a0 hw [] a1 aa i n cA h0 n0 Z0 Fn Fa ArA SA hn hi hin) hZ (hw _ (List.mem_of_getElem? (i := 43) rfl)) (hw _ (List.mem_of_getElem? (i := 4) rfl)) (by decide) (by decide)) q1a q1c (g := (mkF m 1 #[.val (.ref a1), .val (.ref a2), .val (.int (Int32.ofNat i)), .val (.int (Int32.ofNat n)), .unset, .unset, .unset] [(.ref a1)])) rfl (by rw [hml]; rfl) (Steps.refl _) (argsL := []) (rest := []) (lenOf pd_3 rfl) rfl (by show 2 * 0 + _ ≤ _; exact Nat.le_of_eq rfl) (hb hby d3_1) (fun _ _ => ⟨rfl, e0, (by decide : 0 + 0 ≤ _), (by decide : 0 + 0 ≤ _)⟩)
  dsimp only [Pt.U, Pt.locs, Pt.cells, Pt.slots] at X1 l1 y1 z1 st1 hQ1
  subst l1 y1 z1
  obtain ⟨rfl, N1q, e1⟩ := hQ1
  have N1 := Fr.app N0 N1q
  obtain ⟨cq2, kq2, q2a, q2b, q2c⟩ := isOf hZ e1 E
  obtain ⟨_, _, ⟨T2, L2, k2, n2⟩, -, X2, ⟨Lc2, hQ2, l2, y2, z2⟩, st2⟩ := X1.virtualBack hx (y := (⟨"com/example/graphweave/graphweave/Arguments", "hasNext", "()Z"⟩ : MethodName)) (z := (⟨"com/example/graphweave/graphweave/Arguments", "hasNext", "()Z"⟩ : MethodName)) hown (mvT hZ (hw _ (List.mem_of_getElem? (i := 39) rfl))) (mvT hZ (hw _ (List.mem_of_getElem? (i := 40) rfl))) (notFace_of_selects (args := #[]) (mvT hZ (hw _ (List.mem_of_getElem? (i := 42) rfl)))) (mvT hZ (hw _ (List.mem_of_getElem? (i := 42) rfl))) (mvT hZ (hw _ (List.mem_of_getElem? (i := 41) rfl))) (by decide) (backOf (W := 0) (rm4lt l Z a0 hw [] a1 aa i n cA h0 n0 Z0 Fn Fa ArA SA hn hi hin) hZ (hw _ (List.mem_of_getElem? (i := 43) rfl)) (hw _ (List.mem_of_getElem? (i := 4) rfl)) (by decide) (by decide)) q2a q2c (g := (mkF m 7 #[.val (.ref a1), .val (.ref a2), .val (.int (Int32.ofNat i)), .val (.int (Int32.ofNat n)), .val (.int (1 : Int32)), .unset, .unset] [(.ref a1)])) rfl (by rw [hml]; rfl) (Steps.refl _) (argsL := []) (rest := []) (lenOf pd_3 rfl) rfl (by show 2 * 0 + _ ≤ _; exact Nat.le_of_eq rfl) (hb hby d3_7) (fun _ _ => ⟨rfl, e1, (by decide : 0 + 0 ≤ _), (by decide : 0 + 0 ≤ _)⟩)
  dsimp only [Pt.U, Pt.locs, Pt.cells, Pt.slots] at X2 l2 y2 z2 st2 hQ2
  subst l2 y2 z2
  obtain ⟨rfl, N2q, e2⟩ := hQ2
  have N2 := Fr.app N1 N2q
  obtain ⟨cq3, kq3, q3a, q3b, q3c⟩ := isOf hZ e2 E
  obtain ⟨_, _, ⟨T3, L3, k3, n3⟩, -, X3, ⟨Lc3, hQ3, l3, y3, z3⟩, st3⟩ := X2.virtualBack hx (y := (⟨"com/example/graphweave/graphweave/Arguments", "next", "()Ljava/lang/String;"⟩ : MethodName)) (z := (⟨"com/example/graphweave/graphweave/Arguments", "next", "()Ljava/lang/String;"⟩ : MethodName)) hown (mvT hZ (hw _ (List.mem_of_getElem? (i := 65) rfl))) (mvT hZ (hw _ (List.mem_of_getElem? (i := 66) rfl))) (notFace_of_selects (args := #[]) (mvT hZ (hw _ (List.mem_of_getElem? (i := 68) rfl)))) (mvT hZ (hw _ (List.mem_of_getElem? (i := 68) rfl))) (mvT hZ (hw _ (List.mem_of_getElem? (i := 67) rfl))) (by decide) (backOf (W := 0) (rm9 l Z a0 hw [] a1 aa i n S h0 n0 Z0 g1 E Fn Fa ⟨cA, ArA, SA, HA⟩ ne hn hin) hZ (hw _ (List.mem_of_getElem? (i := 69) rfl)) (hw _ (List.mem_of_getElem? (i := 4) rfl)) (by decide) (by decide)) q3a q3c (g := (mkF m 44 #[.val (.ref a1), .val (.ref a2), .val (.int (Int32.ofNat i)), .val (.int (Int32.ofNat n)), .val (.int (1 : Int32)), .val (.int (1 : Int32)), .unset] [(.ref a1)])) rfl (by rw [hml]; rfl) (Steps.refl _) (argsL := []) (rest := []) (lenOf pd_4 rfl) rfl (by show 2 * 0 + _ ≤ _; exact Nat.le_of_eq rfl) (hb hby d3_44) (fun _ _ => ⟨rfl, e2, (by decide : 0 + 0 ≤ _), (by decide : 0 + 0 ≤ _)⟩)
  dsimp only [Pt.U, Pt.locs, Pt.cells, Pt.slots] at X3 l3 y3 z3 st3 hQ3
  subst l3 y3 z3
  obtain ⟨rfl, N3q, K3, Fn3, Fa3⟩ := hQ3
  have N3 := Fr.app N2 N3q
  have e3 : T3.heap = T3.heap := rfl
  have Z3 : n0 ≤ T3.heap.size := Nat.le_trans Z0 K3.1
  obtain ⟨cR, ArR, SR, HR⟩ := VR.keep K3 (ninS ne2 nin0)
  have ES3 := (ES i hin).keep K3
  have hi' : (Int32.ofNat i).toNatClampNeg = i := clamp_of rfl (by omega)
  have hinR : ¬ (Int32.ofNat i < 0 ∨ cR.slots.size ≤ (Int32.ofNat i).toNatClampNeg) := by rw [SR]; exact within rfl hin (by omega)
  have hatR : cR.slots[(Int32.ofNat i).toNatClampNeg]? = some (.ref (S i)) := by rw [hi']; exact HR i hin
  obtain ⟨cq4, kq4, q4a, q4b, q4c⟩ := isOf hZ e3 ES3
  obtain ⟨_, _, ⟨T4, L4, k4, n4⟩, -, X4, ⟨Lc4, hQ4, l4, y4, z4⟩, st4⟩ := X3.virtualBack hx (y := (⟨"java/lang/String", "equals", "(Ljava/lang/Object;)Z"⟩ : MethodName)) (z := (⟨"java/lang/String", "equals", "(Ljava/lang/Object;)Z"⟩ : MethodName)) hown (mvT hZ (hw _ (List.mem_of_getElem? (i := 70) rfl))) (mvT hZ (hw _ (List.mem_of_getElem? (i := 71) rfl))) (notFace_of_selects (args := #[]) (mvT hZ (hw _ (List.mem_of_getElem? (i := 73) rfl)))) (mvT hZ (hw _ (List.mem_of_getElem? (i := 73) rfl))) (mvT hZ (hw _ (List.mem_of_getElem? (i := 72) rfl))) (by decide) (backOf (W := 0) (rm10 l Z a0 hw [] (S i) T3.heap n0 Z3) hZ (hw _ (List.mem_of_getElem? (i := 74) rfl)) (hw _ (List.mem_of_getElem? (i := 6) rfl)) (by decide) (by decide)) q4a q4c (g := (mkF m 59 #[.val (.ref a1), .val (.ref a2), .val (.int (Int32.ofNat i)), .val (.int (Int32.ofNat n)), .val (.int (1 : Int32)), .val (.int (1 : Int32)), .val (.ref (S i))] [(.ref (S i)), (.ref (S i))])) rfl (by rw [hml]; rfl) (Steps.refl _) (argsL := [(.ref (S i))]) (rest := []) (lenOf pd_5 rfl) rfl (by show 2 * 0 + _ ≤ _; exact Nat.le_of_eq rfl) (hb hby d3_59) (fun _ _ => ⟨rfl, e3, (by decide : 0 + 0 ≤ _), (by decide : 0 + 0 ≤ _)⟩)
  dsimp only [Pt.U, Pt.locs, Pt.cells, Pt.slots] at X4 l4 y4 z4 st4 hQ4
  subst l4 y4 z4
  obtain ⟨rfl, N4q, e4⟩ := hQ4
  have N4 := Fr.app N3 N4q
  obtain ⟨fs, hr, hrun, hended, hW, hsame⟩ := X4.leave (v := some (.int (1 : Int32))) (fun h => by rw [Bd.returns] at h; cases h)
  refine ⟨_, _, pre0 _ ?_, hrun, hended, _, _, rfl, ?_, ⟨_, rfl⟩, hW, hsame.mono (by decide) (by decide)⟩
  · show Steps p.tables e below (s₁.setTop (mkF m 0 #[.val (.ref a1), .val (.ref a2), .val (.int (Int32.ofNat i)), .val (.int (Int32.ofNat n)), .unset, .unset, .unset] [])) _
    refine XS.aloadN X0.here hx rfl (hb hby d3_0) rfl rfl ?_
    show Steps p.tables e below (s₁.setTop (mkF m 1 #[.val (.ref a1), .val (.ref a2), .val (.int (Int32.ofNat i)), .val (.int (Int32.ofNat n)), .unset, .unset, .unset] [(.ref a1)])) _
    refine st1.trans ?_
    show Steps p.tables e below (T1.setTop (mkF m 4 #[.val (.ref a1), .val (.ref a2), .val (.int (Int32.ofNat i)), .val (.int (Int32.ofNat n)), .unset, .unset, .unset] [(.int (1 : Int32))])) _
    refine XS.istore X1.here hx rfl (hb hby d3_4) rfl (l' := #[.val (.ref a1), .val (.ref a2), .val (.int (Int32.ofNat i)), .val (.int (Int32.ofNat n)), .val (.int (1 : Int32)), .unset, .unset]) rfl ?_
    show Steps p.tables e below (T1.setTop (mkF m 6 #[.val (.ref a1), .val (.ref a2), .val (.int (Int32.ofNat i)), .val (.int (Int32.ofNat n)), .val (.int (1 : Int32)), .unset, .unset] [])) _
    refine XS.aloadN X1.here hx rfl (hb hby d3_6) rfl rfl ?_
    show Steps p.tables e below (T1.setTop (mkF m 7 #[.val (.ref a1), .val (.ref a2), .val (.int (Int32.ofNat i)), .val (.int (Int32.ofNat n)), .val (.int (1 : Int32)), .unset, .unset] [(.ref a1)])) _
    refine st2.trans ?_
    show Steps p.tables e below (T2.setTop (mkF m 10 #[.val (.ref a1), .val (.ref a2), .val (.int (Int32.ofNat i)), .val (.int (Int32.ofNat n)), .val (.int (1 : Int32)), .unset, .unset] [(.int (1 : Int32))])) _
    refine XS.istore X2.here hx rfl (hb hby d3_10) rfl (l' := #[.val (.ref a1), .val (.ref a2), .val (.int (Int32.ofNat i)), .val (.int (Int32.ofNat n)), .val (.int (1 : Int32)), .val (.int (1 : Int32)), .unset]) rfl ?_
    show Steps p.tables e below (T2.setTop (mkF m 12 #[.val (.ref a1), .val (.ref a2), .val (.int (Int32.ofNat i)), .val (.int (Int32.ofNat n)), .val (.int (1 : Int32)), .val (.int (1 : Int32)), .unset] [])) _
    refine XS.iload X2.here hx rfl (hb hby d3_12) rfl ?_
    show Steps p.tables e below (T2.setTop (mkF m 14 #[.val (.ref a1), .val (.ref a2), .val (.int (Int32.ofNat i)), .val (.int (Int32.ofNat n)), .val (.int (1 : Int32)), .val (.int (1 : Int32)), .unset] [(.int (1 : Int32))])) _
    refine XS.iload X2.here hx rfl (hb hby d3_14) rfl ?_
    show Steps p.tables e below (T2.setTop (mkF m 16 #[.val (.ref a1), .val (.ref a2), .val (.int (Int32.ofNat i)), .val (.int (Int32.ofNat n)), .val (.int (1 : Int32)), .val (.int (1 : Int32)), .unset] [(.int (1 : Int32)), (.int (1 : Int32))])) _
    refine XS.icmpYes X2.here hx rfl (pc0 := 16) (pc' := 21) rfl (hb hby d3_16) rfl (teq (rfl : (1 : Int32) = (1 : Int32))).1 (by decide) (by decide) ?_
    show Steps p.tables e below (T2.setTop (mkF m 21 #[.val (.ref a1), .val (.ref a2), .val (.int (Int32.ofNat i)), .val (.int (Int32.ofNat n)), .val (.int (1 : Int32)), .val (.int (1 : Int32)), .unset] [])) _
    refine XS.iload X2.here hx rfl (hb hby d3_21) rfl ?_
    show Steps p.tables e below (T2.setTop (mkF m 23 #[.val (.ref a1), .val (.ref a2), .val (.int (Int32.ofNat i)), .val (.int (Int32.ofNat n)), .val (.int (1 : Int32)), .val (.int (1 : Int32)), .unset] [(.int (1 : Int32))])) _
    refine XS.iloadN X2.here hx rfl (hb hby d3_23) rfl ?_
    show Steps p.tables e below (T2.setTop (mkF m 24 #[.val (.ref a1), .val (.ref a2), .val (.int (Int32.ofNat i)), .val (.int (Int32.ofNat n)), .val (.int (1 : Int32)), .val (.int (1 : Int32)), .unset] [(.int (Int32.ofNat i)), (.int (1 : Int32))])) _
    refine XS.iloadN X2.here hx rfl (hb hby d3_24) rfl ?_
    show Steps p.tables e below (T2.setTop (mkF m 25 #[.val (.ref a1), .val (.ref a2), .val (.int (Int32.ofNat i)), .val (.int (Int32.ofNat n)), .val (.int (1 : Int32)), .val (.int (1 : Int32)), .unset] [(.int (Int32.ofNat n)), (.int (Int32.ofNat i)), (.int (1 : Int32))])) _
    refine XS.icmpNo X2.here hx rfl (hb hby d3_25) rfl (tlt (own_lt hin (by omega))).2.1 ?_
    show Steps p.tables e below (T2.setTop (mkF m 28 #[.val (.ref a1), .val (.ref a2), .val (.int (Int32.ofNat i)), .val (.int (Int32.ofNat n)), .val (.int (1 : Int32)), .val (.int (1 : Int32)), .unset] [(.int (1 : Int32))])) _
    refine XS.iconst X2.here hx rfl (hb hby d3_28) ?_
    show Steps p.tables e below (T2.setTop (mkF m 29 #[.val (.ref a1), .val (.ref a2), .val (.int (Int32.ofNat i)), .val (.int (Int32.ofNat n)), .val (.int (1 : Int32)), .val (.int (1 : Int32)), .unset] [(.int (1 : Int32)), (.int (1 : Int32))])) _
    refine XS.goto X2.here hx rfl (pc0 := 29) (pc' := 33) rfl (hb hby d3_29) (by decide) (by decide) ?_
    show Steps p.tables e below (T2.setTop (mkF m 33 #[.val (.ref a1), .val (.ref a2), .val (.int (Int32.ofNat i)), .val (.int (Int32.ofNat n)), .val (.int (1 : Int32)), .val (.int (1 : Int32)), .unset] [(.int (1 : Int32)), (.int (1 : Int32))])) _
    refine XS.icmpYes X2.here hx rfl (pc0 := 33) (pc' := 38) rfl (hb hby d3_33) rfl (teq (rfl : (1 : Int32) = (1 : Int32))).1 (by decide) (by decide) ?_
    show Steps p.tables e below (T2.setTop (mkF m 38 #[.val (.ref a1), .val (.ref a2), .val (.int (Int32.ofNat i)), .val (.int (Int32.ofNat n)), .val (.int (1 : Int32)), .val (.int (1 : Int32)), .unset] [])) _
    refine XS.iload X2.here hx rfl (hb hby d3_38) rfl ?_
    show Steps p.tables e below (T2.setTop (mkF m 40 #[.val (.ref a1), .val (.ref a2), .val (.int (Int32.ofNat i)), .val (.int (Int32.ofNat n)), .val (.int (1 : Int32)), .val (.int (1 : Int32)), .unset] [(.int (1 : Int32))])) _
    refine XS.ifNo X2.here hx rfl (hb hby d3_40) rfl ((if0 _ _).trans (feq (by decide)).1) ?_
    show Steps p.tables e below (T2.setTop (mkF m 43 #[.val (.ref a1), .val (.ref a2), .val (.int (Int32.ofNat i)), .val (.int (Int32.ofNat n)), .val (.int (1 : Int32)), .val (.int (1 : Int32)), .unset] [])) _
    refine XS.aloadN X2.here hx rfl (hb hby d3_43) rfl rfl ?_
    show Steps p.tables e below (T2.setTop (mkF m 44 #[.val (.ref a1), .val (.ref a2), .val (.int (Int32.ofNat i)), .val (.int (Int32.ofNat n)), .val (.int (1 : Int32)), .val (.int (1 : Int32)), .unset] [(.ref a1)])) _
    refine st3.trans ?_
    show Steps p.tables e below (T3.setTop (mkF m 47 #[.val (.ref a1), .val (.ref a2), .val (.int (Int32.ofNat i)), .val (.int (Int32.ofNat n)), .val (.int (1 : Int32)), .val (.int (1 : Int32)), .unset] [(.ref (S i))])) _
    refine XS.astore X3.here hx rfl (hb hby d3_47) rfl rfl (l' := #[.val (.ref a1), .val (.ref a2), .val (.int (Int32.ofNat i)), .val (.int (Int32.ofNat n)), .val (.int (1 : Int32)), .val (.int (1 : Int32)), .val (.ref (S i))]) rfl ?_
    show Steps p.tables e below (T3.setTop (mkF m 49 #[.val (.ref a1), .val (.ref a2), .val (.int (Int32.ofNat i)), .val (.int (Int32.ofNat n)), .val (.int (1 : Int32)), .val (.int (1 : Int32)), .val (.ref (S i))] [])) _
    refine XS.aload X3.here hx rfl (hb hby d3_49) rfl rfl ?_
    show Steps p.tables e below (T3.setTop (mkF m 51 #[.val (.ref a1), .val (.ref a2), .val (.int (Int32.ofNat i)), .val (.int (Int32.ofNat n)), .val (.int (1 : Int32)), .val (.int (1 : Int32)), .val (.ref (S i))] [(.ref (S i))])) _
    refine XS.ifnullNo X3.here hx rfl (hb hby d3_51) rfl ?_
    show Steps p.tables e below (T3.setTop (mkF m 54 #[.val (.ref a1), .val (.ref a2), .val (.int (Int32.ofNat i)), .val (.int (Int32.ofNat n)), .val (.int (1 : Int32)), .val (.int (1 : Int32)), .val (.ref (S i))] [])) _
    refine XS.aload X3.here hx rfl (hb hby d3_54) rfl rfl ?_
    show Steps p.tables e below (T3.setTop (mkF m 56 #[.val (.ref a1), .val (.ref a2), .val (.int (Int32.ofNat i)), .val (.int (Int32.ofNat n)), .val (.int (1 : Int32)), .val (.int (1 : Int32)), .val (.ref (S i))] [(.ref (S i))])) _
    refine XS.aloadN X3.here hx rfl (hb hby d3_56) rfl rfl ?_
    show Steps p.tables e below (T3.setTop (mkF m 57 #[.val (.ref a1), .val (.ref a2), .val (.int (Int32.ofNat i)), .val (.int (Int32.ofNat n)), .val (.int (1 : Int32)), .val (.int (1 : Int32)), .val (.ref (S i))] [(.ref a2), (.ref (S i))])) _
    refine XS.iloadN X3.here hx rfl (hb hby d3_57) rfl ?_
    show Steps p.tables e below (T3.setTop (mkF m 58 #[.val (.ref a1), .val (.ref a2), .val (.int (Int32.ofNat i)), .val (.int (Int32.ofNat n)), .val (.int (1 : Int32)), .val (.int (1 : Int32)), .val (.ref (S i))] [(.int (Int32.ofNat i)), (.ref a2), (.ref (S i))])) _
    refine X3.aaload hx (j := (Int32.ofNat i)) (v := (.ref (S i))) (by rw [e3]; exact ArR.1) (State.isArrayOf_alike hZ.alike ArR.2.1) rfl ArR.2.2 hinR hatR (g := (mkF m 58 #[.val (.ref a1), .val (.ref a2), .val (.int (Int32.ofNat i)), .val (.int (Int32.ofNat n)), .val (.int (1 : Int32)), .val (.int (1 : Int32)), .val (.ref (S i))] [(.int (Int32.ofNat i)), (.ref a2), (.ref (S i))])) rfl rfl (hb hby d3_58) _ ?_
    show Steps p.tables e below (T3.setTop (mkF m 59 #[.val (.ref a1), .val (.ref a2), .val (.int (Int32.ofNat i)), .val (.int (Int32.ofNat n)), .val (.int (1 : Int32)), .val (.int (1 : Int32)), .val (.ref (S i))] [(.ref (S i)), (.ref (S i))])) _
    refine st4.trans ?_
    show Steps p.tables e below (T4.setTop (mkF m 62 #[.val (.ref a1), .val (.ref a2), .val (.int (Int32.ofNat i)), .val (.int (Int32.ofNat n)), .val (.int (1 : Int32)), .val (.int (1 : Int32)), .val (.ref (S i))] [(.int (1 : Int32))])) _
    refine XS.ifNo X4.here hx rfl (hb hby d3_62) rfl ((if0 _ _).trans (feq (by decide)).1) ?_
    show Steps p.tables e below (T4.setTop (mkF m 65 #[.val (.ref a1), .val (.ref a2), .val (.int (Int32.ofNat i)), .val (.int (Int32.ofNat n)), .val (.int (1 : Int32)), .val (.int (1 : Int32)), .val (.ref (S i))] [])) _
    refine XS.iconst X4.here hx rfl (hb hby d3_65) ?_
    show Steps p.tables e below (T4.setTop (mkF m 66 #[.val (.ref a1), .val (.ref a2), .val (.int (Int32.ofNat i)), .val (.int (Int32.ofNat n)), .val (.int (1 : Int32)), .val (.int (1 : Int32)), .val (.ref (S i))] [(.int (1 : Int32))])) _
    refine XS.goto X4.here hx rfl (pc0 := 66) (pc' := 70) rfl (hb hby d3_66) (by decide) (by decide) ?_
    show Steps p.tables e below (T4.setTop (mkF m 70 #[.val (.ref a1), .val (.ref a2), .val (.int (Int32.ofNat i)), .val (.int (Int32.ofNat n)), .val (.int (1 : Int32)), .val (.int (1 : Int32)), .val (.ref (S i))] [(.int (1 : Int32))])) _
    exact retN X4 hx (t := .boolean) Bd.returns (by simp) (hb hby d3_70) hr
  · show Q3lt Z a1 aa i h0 n0 _ T4.heap _
    rw [e4]
    exact ⟨rfl, N4, K3, Fn3, Fa3⟩
theorem d3_32 : decode method_2_code 32 = .ok (.iconst 0, 1) := by decide +kernel
theorem d3_71 : decode method_2_code 71 = .ok (.iconst 1, 1) := by decide +kernel
theorem d3_72 : decode method_2_code 72 = .ok (.ireturn, 1) := by decide +kernel
theorem pn_3ge : plainName "com/example/graphweave/graphweave/ArgumentsHasNextPinLaw" = true := by first | (simp [plainName, overriddenIn]; done) | decide +kernel
def Q3ge (Z : State)  (h0 : Heap) (n0 : Nat) (v : Option Value) (h : Heap) (L : List Loc) : Prop := v = some (.int (1 : Int32)) ∧ Fr n0 L ∧ h = h0
set_option maxRecDepth 65536 in
set_option maxHeartbeats 40000000 in
theorem rm3ge (l : Launch) (Z : State) (a0 : Array Value) (hw : ∀ d ∈ tables_1, d.before a0 Z = true) (ws : List Jvm.Cond) (a1 a2 aa : Addr) (i n : Nat) (S : Nat → Addr) (h0 : Heap) (n0 : Nat) (Z0 : n0 ≤ h0.size) (E : Exa Z h0 a1 "com/example/graphweave/graphweave/Arguments") (Fn : Fld Z h0 a1 "com/example/graphweave/graphweave/Arguments" "next" "I" (.int (Int32.ofNat n))) (Fa : Fld Z h0 a1 "com/example/graphweave/graphweave/Arguments" "args" "[Ljava/lang/String;" (.ref aa)) (VA : AF Z h0 aa (.object "java/lang/String") n (fun j => .ref (S j))) (VR : AF Z h0 a2 (.object "java/lang/String") n (fun j => .ref (S j))) (ES : ∀ j, j < n → Exa Z h0 (S j) "java/lang/String") (ne : aa ≠ a1) (ne2 : a2 ≠ a1) (g1 : n0 ≤ a1) (hn : n ≤ 3) (hi : i ≤ 3) (hin : n ≤ i) :
    MetFree l (⟨"com/example/graphweave/graphweave/ArgumentsHasNextPinLaw", "step", "(Lcom/example/graphweave/graphweave/Arguments;[Ljava/lang/String;II)Z"⟩ : MethodName) (head1 (Jvm.Cond.code (⟨"com/example/graphweave/graphweave/ArgumentsHasNextPinLaw", "step", "(Lcom/example/graphweave/graphweave/Arguments;[Ljava/lang/String;II)Z"⟩ : MethodName) method_2_code 7 (some .boolean) :: ws) ({ frames := 1, cells := 0, slots := 0, locals := 14 } : Room)) (fun a U => a = #[(.ref a1), (.ref a2), (.int (Int32.ofNat i)), (.int (Int32.ofNat n))] ∧ Z.Warmed39 U.vm ∧ U.heap = h0) (fun _ _ _ _ _ => True) (fun _ U o U' => ∃ v L, o = .returned v ∧ Q3ge Z  h0 n0 v U'.heap L ∧ FrameEnd U o U' L ({ frames := 1, cells := 0, slots := 0, locals := 14 } : Room).cells ({ frames := 1, cells := 0, slots := 0, locals := 14 } : Room).slots) := by
  refine MetFree.of_bodySF (plainFor_of_name pn_3ge) hisR ?_
  intro p e s m args below meth c s₁ Bd hml0 hP hK
  obtain ⟨rfl, hZ, hh⟩ := hP
  have hx := Bd.exec
  have hby := Bd.bytes
  have hml : c.maxLocals = 7 := hml0
  have hown : s.vm.findClass "com/example/graphweave/graphweave/ArgumentsHasNextPinLaw" = some m.cls := findClass_of_methodNamed Bd.named
  have hnm := (name_of_methodNamed Bd.named Bd.method).1
  have X0 : Stand p l e ({ frames := 1, cells := 0, slots := 0, locals := 14 } : Room) s m #[(.ref a1), (.ref a2), (.int (Int32.ofNat i)), (.int (Int32.ofNat n))] below meth c s₁ [] 0 0 := Stand.of_body Bd
  have e0 : s₁.heap = h0 := by rw [← hh, Bd.state]; rfl
  have N0 := Fr.nil n0
  have pre0 : ∀ t, Steps p.tables e below (s₁.setTop (mkF m 0 #[.val (.ref a1), .val (.ref a2), .val (.int (Int32.ofNat i)), .val (.int (Int32.ofNat n)), .unset, .unset, .unset] [])) t → Steps p.tables e below (s₁.setTop (entryFrame m #[(.ref a1), (.ref a2), (.int (Int32.ofNat i)), (.int (Int32.ofNat n))] 7)) t := fun t k => castTop (by first | (simp [entryFrame, mkF, argsToLocals, Value.category]; done) | rfl) k
  obtain ⟨cA, ArA, SA, HA⟩ := VA
  obtain ⟨cq1, kq1, q1a, q1b, q1c⟩ := isOf hZ e0 E
  obtain ⟨_, _, ⟨T1, L1, k1, n1⟩, -, X1, ⟨Lc1, hQ1, l1, y1, z1⟩, st1⟩ := X0.virtualBack hx (y := (⟨"com/example/graphweave/graphweave/Arguments", "hasNext", "()Z"⟩ : MethodName)) (z := (⟨"com/example/graphweave/graphweave/Arguments", "hasNext", "()Z"⟩ : MethodName)) hown (mvT hZ (hw _ (List.mem_of_getElem? (i := 39) rfl))) (mvT hZ (hw _ (List.mem_of_getElem? (i := 40) rfl))) (notFace_of_selects (args := #[]) (mvT hZ (hw _ (List.mem_of_getElem? (i := 42) rfl)))) (mvT hZ (hw _ (List.mem_of_getElem? (i := 42) rfl))) (mvT hZ (hw _ (List.mem_of_getElem? (i := 41) rfl))) (by decide) (backOf (W := 0) (rm4ge l Z a0 hw [] a1 aa n n cA h0 n0 Z0 Fn Fa ArA SA hn hn (Nat.le_refl n)) hZ (hw _ (List.mem_of_getElem? (i := 43) rfl)) (hw _ (List.mem_of_getElem? (i := 4) rfl)) (by decide) (by decide)) q1a q1c (g := (mkF m 1 #[.val (.ref a1), .val (.ref a2), .val (.int (Int32.ofNat i)), .val (.int (Int32.ofNat n)), .unset, .unset, .unset] [(.ref a1)])) rfl (by rw [hml]; rfl) (Steps.refl _) (argsL := []) (rest := []) (lenOf pd_3 rfl) rfl (by show 2 * 0 + _ ≤ _; exact Nat.le_of_eq rfl) (hb hby d3_1) (fun _ _ => ⟨rfl, e0, (by decide : 0 + 0 ≤ _), (by decide : 0 + 0 ≤ _)⟩)
  dsimp only [Pt.U, Pt.locs, Pt.cells, Pt.slots] at X1 l1 y1 z1 st1 hQ1
  subst l1 y1 z1
  obtain ⟨rfl, N1q, e1⟩ := hQ1
  have N1 := Fr.app N0 N1q
  obtain ⟨cq2, kq2, q2a, q2b, q2c⟩ := isOf hZ e1 E
  obtain ⟨_, _, ⟨T2, L2, k2, n2⟩, -, X2, ⟨Lc2, hQ2, l2, y2, z2⟩, st2⟩ := X1.virtualBack hx (y := (⟨"com/example/graphweave/graphweave/Arguments", "hasNext", "()Z"⟩ : MethodName)) (z := (⟨"com/example/graphweave/graphweave/Arguments", "hasNext", "()Z"⟩ : MethodName)) hown (mvT hZ (hw _ (List.mem_of_getElem? (i := 39) rfl))) (mvT hZ (hw _ (List.mem_of_getElem? (i := 40) rfl))) (notFace_of_selects (args := #[]) (mvT hZ (hw _ (List.mem_of_getElem? (i := 42) rfl)))) (mvT hZ (hw _ (List.mem_of_getElem? (i := 42) rfl))) (mvT hZ (hw _ (List.mem_of_getElem? (i := 41) rfl))) (by decide) (backOf (W := 0) (rm4ge l Z a0 hw [] a1 aa n n cA h0 n0 Z0 Fn Fa ArA SA hn hn (Nat.le_refl n)) hZ (hw _ (List.mem_of_getElem? (i := 43) rfl)) (hw _ (List.mem_of_getElem? (i := 4) rfl)) (by decide) (by decide)) q2a q2c (g := (mkF m 7 #[.val (.ref a1), .val (.ref a2), .val (.int (Int32.ofNat i)), .val (.int (Int32.ofNat n)), .val (.int (0 : Int32)), .unset, .unset] [(.ref a1)])) rfl (by rw [hml]; rfl) (Steps.refl _) (argsL := []) (rest := []) (lenOf pd_3 rfl) rfl (by show 2 * 0 + _ ≤ _; exact Nat.le_of_eq rfl) (hb hby d3_7) (fun _ _ => ⟨rfl, e1, (by decide : 0 + 0 ≤ _), (by decide : 0 + 0 ≤ _)⟩)
  dsimp only [Pt.U, Pt.locs, Pt.cells, Pt.slots] at X2 l2 y2 z2 st2 hQ2
  subst l2 y2 z2
  obtain ⟨rfl, N2q, e2⟩ := hQ2
  have N2 := Fr.app N1 N2q
  obtain ⟨fs, hr, hrun, hended, hW, hsame⟩ := X2.leave (v := some (.int (1 : Int32))) (fun h => by rw [Bd.returns] at h; cases h)
  refine ⟨_, _, pre0 _ ?_, hrun, hended, _, _, rfl, ?_, ⟨_, rfl⟩, hW, hsame.mono (by decide) (by decide)⟩
  · show Steps p.tables e below (s₁.setTop (mkF m 0 #[.val (.ref a1), .val (.ref a2), .val (.int (Int32.ofNat i)), .val (.int (Int32.ofNat n)), .unset, .unset, .unset] [])) _
    refine XS.aloadN X0.here hx rfl (hb hby d3_0) rfl rfl ?_
    show Steps p.tables e below (s₁.setTop (mkF m 1 #[.val (.ref a1), .val (.ref a2), .val (.int (Int32.ofNat i)), .val (.int (Int32.ofNat n)), .unset, .unset, .unset] [(.ref a1)])) _
    refine st1.trans ?_
    show Steps p.tables e below (T1.setTop (mkF m 4 #[.val (.ref a1), .val (.ref a2), .val (.int (Int32.ofNat i)), .val (.int (Int32.ofNat n)), .unset, .unset, .unset] [(.int (0 : Int32))])) _
    refine XS.istore X1.here hx rfl (hb hby d3_4) rfl (l' := #[.val (.ref a1), .val (.ref a2), .val (.int (Int32.ofNat i)), .val (.int (Int32.ofNat n)), .val (.int (0 : Int32)), .unset, .unset]) rfl ?_
    show Steps p.tables e below (T1.setTop (mkF m 6 #[.val (.ref a1), .val (.ref a2), .val (.int (Int32.ofNat i)), .val (.int (Int32.ofNat n)), .val (.int (0 : Int32)), .unset, .unset] [])) _
    refine XS.aloadN X1.here hx rfl (hb hby d3_6) rfl rfl ?_
    show Steps p.tables e below (T1.setTop (mkF m 7 #[.val (.ref a1), .val (.ref a2), .val (.int (Int32.ofNat i)), .val (.int (Int32.ofNat n)), .val (.int (0 : Int32)), .unset, .unset] [(.ref a1)])) _
    refine st2.trans ?_
    show Steps p.tables e below (T2.setTop (mkF m 10 #[.val (.ref a1), .val (.ref a2), .val (.int (Int32.ofNat i)), .val (.int (Int32.ofNat n)), .val (.int (0 : Int32)), .unset, .unset] [(.int (0 : Int32))])) _
    refine XS.istore X2.here hx rfl (hb hby d3_10) rfl (l' := #[.val (.ref a1), .val (.ref a2), .val (.int (Int32.ofNat i)), .val (.int (Int32.ofNat n)), .val (.int (0 : Int32)), .val (.int (0 : Int32)), .unset]) rfl ?_
    show Steps p.tables e below (T2.setTop (mkF m 12 #[.val (.ref a1), .val (.ref a2), .val (.int (Int32.ofNat i)), .val (.int (Int32.ofNat n)), .val (.int (0 : Int32)), .val (.int (0 : Int32)), .unset] [])) _
    refine XS.iload X2.here hx rfl (hb hby d3_12) rfl ?_
    show Steps p.tables e below (T2.setTop (mkF m 14 #[.val (.ref a1), .val (.ref a2), .val (.int (Int32.ofNat i)), .val (.int (Int32.ofNat n)), .val (.int (0 : Int32)), .val (.int (0 : Int32)), .unset] [(.int (0 : Int32))])) _
    refine XS.iload X2.here hx rfl (hb hby d3_14) rfl ?_
    show Steps p.tables e below (T2.setTop (mkF m 16 #[.val (.ref a1), .val (.ref a2), .val (.int (Int32.ofNat i)), .val (.int (Int32.ofNat n)), .val (.int (0 : Int32)), .val (.int (0 : Int32)), .unset] [(.int (0 : Int32)), (.int (0 : Int32))])) _
    refine XS.icmpYes X2.here hx rfl (pc0 := 16) (pc' := 21) rfl (hb hby d3_16) rfl (teq (rfl : (0 : Int32) = (0 : Int32))).1 (by decide) (by decide) ?_
    show Steps p.tables e below (T2.setTop (mkF m 21 #[.val (.ref a1), .val (.ref a2), .val (.int (Int32.ofNat i)), .val (.int (Int32.ofNat n)), .val (.int (0 : Int32)), .val (.int (0 : Int32)), .unset] [])) _
    refine XS.iload X2.here hx rfl (hb hby d3_21) rfl ?_
    show Steps p.tables e below (T2.setTop (mkF m 23 #[.val (.ref a1), .val (.ref a2), .val (.int (Int32.ofNat i)), .val (.int (Int32.ofNat n)), .val (.int (0 : Int32)), .val (.int (0 : Int32)), .unset] [(.int (0 : Int32))])) _
    refine XS.iloadN X2.here hx rfl (hb hby d3_23) rfl ?_
    show Steps p.tables e below (T2.setTop (mkF m 24 #[.val (.ref a1), .val (.ref a2), .val (.int (Int32.ofNat i)), .val (.int (Int32.ofNat n)), .val (.int (0 : Int32)), .val (.int (0 : Int32)), .unset] [(.int (Int32.ofNat i)), (.int (0 : Int32))])) _
    refine XS.iloadN X2.here hx rfl (hb hby d3_24) rfl ?_
    show Steps p.tables e below (T2.setTop (mkF m 25 #[.val (.ref a1), .val (.ref a2), .val (.int (Int32.ofNat i)), .val (.int (Int32.ofNat n)), .val (.int (0 : Int32)), .val (.int (0 : Int32)), .unset] [(.int (Int32.ofNat n)), (.int (Int32.ofNat i)), (.int (0 : Int32))])) _
    refine XS.icmpYes X2.here hx rfl (pc0 := 25) (pc' := 32) rfl (hb hby d3_25) rfl (flt (own_ge hin (by omega))).2.1 (by decide) (by decide) ?_
    show Steps p.tables e below (T2.setTop (mkF m 32 #[.val (.ref a1), .val (.ref a2), .val (.int (Int32.ofNat i)), .val (.int (Int32.ofNat n)), .val (.int (0 : Int32)), .val (.int (0 : Int32)), .unset] [(.int (0 : Int32))])) _
    refine XS.iconst X2.here hx rfl (hb hby d3_32) ?_
    show Steps p.tables e below (T2.setTop (mkF m 33 #[.val (.ref a1), .val (.ref a2), .val (.int (Int32.ofNat i)), .val (.int (Int32.ofNat n)), .val (.int (0 : Int32)), .val (.int (0 : Int32)), .unset] [(.int (0 : Int32)), (.int (0 : Int32))])) _
    refine XS.icmpYes X2.here hx rfl (pc0 := 33) (pc' := 38) rfl (hb hby d3_33) rfl (teq (rfl : (0 : Int32) = (0 : Int32))).1 (by decide) (by decide) ?_
    show Steps p.tables e below (T2.setTop (mkF m 38 #[.val (.ref a1), .val (.ref a2), .val (.int (Int32.ofNat i)), .val (.int (Int32.ofNat n)), .val (.int (0 : Int32)), .val (.int (0 : Int32)), .unset] [])) _
    refine XS.iload X2.here hx rfl (hb hby d3_38) rfl ?_
    show Steps p.tables e below (T2.setTop (mkF m 40 #[.val (.ref a1), .val (.ref a2), .val (.int (Int32.ofNat i)), .val (.int (Int32.ofNat n)), .val (.int (0 : Int32)), .val (.int (0 : Int32)), .unset] [(.int (0 : Int32))])) _
    refine XS.ifYes X2.here hx rfl (pc0 := 40) (pc' := 71) rfl (hb hby d3_40) rfl ((if0 _ _).trans (teq (by decide)).1) (by decide) (by decide) ?_
    show Steps p.tables e below (T2.setTop (mkF m 71 #[.val (.ref a1), .val (.ref a2), .val (.int (Int32.ofNat i)), .val (.int (Int32.ofNat n)), .val (.int (0 : Int32)), .val (.int (0 : Int32)), .unset] [])) _
    refine XS.iconst X2.here hx rfl (hb hby d3_71) ?_
    show Steps p.tables e below (T2.setTop (mkF m 72 #[.val (.ref a1), .val (.ref a2), .val (.int (Int32.ofNat i)), .val (.int (Int32.ofNat n)), .val (.int (0 : Int32)), .val (.int (0 : Int32)), .unset] [(.int (1 : Int32))])) _
    exact retN X2 hx (t := .boolean) Bd.returns (by simp) (hb hby d3_72) hr
  · show Q3ge Z h0 n0 _ T2.heap _
    rw [e2]
    exact ⟨rfl, N2, rfl⟩
def Inv (Z : State) (a1 a2 aa : Addr) (n k : Nat) (S : Nat → Addr) (n0 : Nat) (h : Heap) : Prop := (Exa Z h a1 "com/example/graphweave/graphweave/Arguments" ∧ Fld Z h a1 "com/example/graphweave/graphweave/Arguments" "next" "I" (.int (Int32.ofNat k)) ∧ Fld Z h a1 "com/example/graphweave/graphweave/Arguments" "args" "[Ljava/lang/String;" (.ref aa) ∧ AF Z h aa (.object "java/lang/String") n (fun j => .ref (S j)) ∧ AF Z h a2 (.object "java/lang/String") n (fun j => .ref (S j)) ∧ (∀ j, j < n → Exa Z h (S j) "java/lang/String") ∧ n0 ≤ h.size)
def Q3 (Z : State) (a1 a2 aa : Addr) (i n : Nat) (S : Nat → Addr) (h0 : Heap) (n0 : Nat) (v : Option Value) (h : Heap) (L : List Loc) : Prop := v = some (.int (1 : Int32)) ∧ Fr n0 L ∧ h0.size ≤ h.size ∧ Inv Z a1 a2 aa n (min (i + 1) n) S n0 h
theorem rm3 (l : Launch) (Z : State) (a0 : Array Value) (hw : ∀ d ∈ tables_1, d.before a0 Z = true) (ws : List Jvm.Cond) (a1 a2 aa : Addr) (i n : Nat) (S : Nat → Addr) (h0 : Heap) (n0 : Nat) (I : Inv Z a1 a2 aa n (min i n) S n0 h0) (ne : aa ≠ a1) (ne2 : a2 ≠ a1) (neS : ∀ j, j < n → S j ≠ a1) (g1 : n0 ≤ a1) (hn : n ≤ 3) (hi : i ≤ 3) :
    MetFree l (⟨"com/example/graphweave/graphweave/ArgumentsHasNextPinLaw", "step", "(Lcom/example/graphweave/graphweave/Arguments;[Ljava/lang/String;II)Z"⟩ : MethodName) (head1 (Jvm.Cond.code (⟨"com/example/graphweave/graphweave/ArgumentsHasNextPinLaw", "step", "(Lcom/example/graphweave/graphweave/Arguments;[Ljava/lang/String;II)Z"⟩ : MethodName) method_2_code 7 (some .boolean) :: ws) ({ frames := 1, cells := 0, slots := 0, locals := 14 } : Room)) (fun a U => a = #[(.ref a1), (.ref a2), (.int (Int32.ofNat i)), (.int (Int32.ofNat n))] ∧ Z.Warmed39 U.vm ∧ U.heap = h0) (fun _ _ _ _ _ => True) (fun _ U o U' => ∃ v L, o = .returned v ∧ Q3 Z a1 a2 aa i n S h0 n0 v U'.heap L ∧ FrameEnd U o U' L ({ frames := 1, cells := 0, slots := 0, locals := 14 } : Room).cells ({ frames := 1, cells := 0, slots := 0, locals := 14 } : Room).slots) := by
  obtain ⟨E, Fn, Fa, VA, VR, ES, Z0⟩ := I
  by_cases hin : i < n
  · rw [Nat.min_eq_left (by omega)] at Fn
    intro p e ha hc hk s m args below hf hA hP hK
    obtain ⟨nn, o, k1, k2, k3, v, L, rfl, ⟨rfl, NF, K, Fn', Fa'⟩, hq⟩ := rm3lt l Z a0 hw ws a1 a2 aa i n S h0 n0 Z0 E Fn Fa VA VR ES ne ne2 g1 hn hi hin p e ha hc hk s m args below hf hA hP hK
    exact ⟨nn, _, k1, k2, k3, _, L, rfl, ⟨rfl, NF, K.1, E.keep K, by rw [Nat.min_eq_left (by omega)]; exact Fn', Fa', VA.keep K (ninS ne nin0), VR.keep K (ninS ne2 nin0), fun j hj => (ES j hj).keep K, Nat.le_trans Z0 K.1⟩, hq⟩
  · rw [Nat.min_eq_right (by omega)] at Fn
    intro p e ha hc hk s m args below hf hA hP hK
    obtain ⟨nn, o, k1, k2, k3, v, L, rfl, ⟨rfl, NF, eh⟩, hq⟩ := rm3ge l Z a0 hw ws a1 a2 aa i n S h0 n0 Z0 E Fn Fa VA VR ES ne ne2 g1 hn hi (by omega) p e ha hc hk s m args below hf hA hP hK
    have K := own_keep eh
    exact ⟨nn, _, k1, k2, k3, _, L, rfl, ⟨rfl, NF, K.1, E.keep K, by rw [Nat.min_eq_right (by omega)]; exact Fn.keep K nin0, Fa.keep K nin0, VA.keep K nin0, VR.keep K nin0, fun j hj => (ES j hj).keep K, Nat.le_trans Z0 K.1⟩, hq⟩
def OvA (Z : State) : Prop := ∃ cA, Z.vm.findClass "[Ljava/lang/String;" = some cA ∧ Ovr Z cA "java/lang/String"
theorem own_ova {Z : State} {h : Heap} {a : Addr} {k : ClassId} {ty : FieldType} {z : Int32} (A : Arr Z h a (newA k ty z) ty) (E : Exa Z h a "[Ljava/lang/String;") (O : Ovr Z k "java/lang/String") : OvA Z := by
  obtain ⟨cell, kk, h1, h2, -⟩ := E
  cases A.1.symm.trans h1
  exact ⟨_, h2, O⟩
theorem own_sto {Z : State} {h : Heap} {a y : Addr} {c : Cell} {ty : FieldType} (A : Arr Z h a c ty) (E : Exa Z h a "[Ljava/lang/String;") (O : OvA Z) (I : Ins Z h y "java/lang/String" true) : Sto Z h a (.ref y) := by
  obtain ⟨cell, kk, h1, h2, -⟩ := E
  cases A.1.symm.trans h1
  obtain ⟨cA, f, O⟩ := O
  cases f.symm.trans h2
  exact Sto.of A O I
def own_S (b0 b1 b2 : Addr) (j : Nat) : Addr := if j = 0 then b0 else if j = 1 then b1 else b2
theorem own_old {Z : State} {n0 : Nat} {h : Heap} (O : Old Z n0 h) : n0 ≤ h.size := by rw [← O.1]; exact O.2.1
set_option maxRecDepth 65536 in
set_option maxHeartbeats 40000000 in
theorem sg0 {p : Program} {l : Launch} {e : Env} {R : Room} {s : State} {m : MethodId} {args : Array Value} {below : List Frame} {meth : Method} {c : Code} {T0 : State} {locs : List Loc} {cells slots : Nat} {Z : State} {a0 : Array Value} {h0 : Heap} (p1 p2 p3 p4 : Int32)
    (X0 : Stand p l e R s m args below meth c T0 locs cells slots) (hx : p.tables.exec = Jvm.exec) (hZ : Z.Warmed39 s.vm) (hw : ∀ d ∈ tables_1, d.before a0 Z = true) (hby : c.code = code) (hown : s.vm.findClass "com/example/graphweave/graphweave/ArgumentsHasNextPinLaw" = some m.cls) (e0 : T0.heap = h0) {target : State} (kt : Steps p.tables e below (T0.setTop (mkF m 7 #[.val (.int p1), .val (.int p2), .val (.int p3), .val (.int p4), .val (.int (p1 &&& (3 : Int32))), .unset, .unset] [(.int (p1 &&& (3 : Int32)))])) target) :
    Steps p.tables e below (T0.setTop (mkF m 0 #[.val (.int p1), .val (.int p2), .val (.int p3), .val (.int p4), .unset, .unset, .unset] [])) target := by
  show Steps p.tables e below (T0.setTop (mkF m 0 #[.val (.int p1), .val (.int p2), .val (.int p3), .val (.int p4), .unset, .unset, .unset] [])) _
  refine XS.iloadN X0.here hx rfl (hb hby at_0) rfl ?_
  show Steps p.tables e below (T0.setTop (mkF m 1 #[.val (.int p1), .val (.int p2), .val (.int p3), .val (.int p4), .unset, .unset, .unset] [(.int p1)])) _
  refine XS.iconst X0.here hx rfl (hb hby at_1) ?_
  show Steps p.tables e below (T0.setTop (mkF m 2 #[.val (.int p1), .val (.int p2), .val (.int p3), .val (.int p4), .unset, .unset, .unset] [(.int (3 : Int32)), (.int p1)])) _
  refine XS.iand X0.here hx rfl (hb hby at_2) rfl ?_
  show Steps p.tables e below (T0.setTop (mkF m 3 #[.val (.int p1), .val (.int p2), .val (.int p3), .val (.int p4), .unset, .unset, .unset] [(.int (p1 &&& (3 : Int32)))])) _
  refine XS.istore X0.here hx rfl (hb hby at_3) rfl (l' := #[.val (.int p1), .val (.int p2), .val (.int p3), .val (.int p4), .val (.int (p1 &&& (3 : Int32))), .unset, .unset]) rfl ?_
  show Steps p.tables e below (T0.setTop (mkF m 5 #[.val (.int p1), .val (.int p2), .val (.int p3), .val (.int p4), .val (.int (p1 &&& (3 : Int32))), .unset, .unset] [])) _
  refine XS.iload X0.here hx rfl (hb hby at_5) rfl ?_
  exact kt
set_option maxRecDepth 65536 in
set_option maxHeartbeats 40000000 in
theorem fill_0 {p : Program} {l : Launch} {e : Env} {s : State} {m : MethodId} {args : Array Value} {below : List Frame} {meth : Method} {c : Code} {T0 : State} {locs : List Loc} {Z : State} {a0 : Array Value} {h0 : Heap} {n0 : Nat} (p1 p2 p3 p4 : Int32) (w : Int32)
    (X0 : Stand p l e room_1 s m args below meth c T0 locs 0 0) (hx : p.tables.exec = Jvm.exec) (hZ : Z.Warmed39 s.vm) (hw : ∀ d ∈ tables_1, d.before a0 Z = true) (hby : c.code = code) (hown : s.vm.findClass "com/example/graphweave/graphweave/ArgumentsHasNextPinLaw" = some m.cls) (e0 : T0.heap = h0) (hml : c.maxLocals = 7) (OL : Old Z n0 h0) (O2 : Sta Z Z.heap "java/lang/String" "COMPACT_STRINGS" "Z" (.int w)) (hw0 : ¬ w = (0 : Int32)) (N0 : Fr n0 locs) :
    ∃ (T' : State) (h' : Heap) (ar : Addr) (S : Nat → Addr) (locs' : List Loc), Stand p l e room_1 s m args below meth c T' locs' 7 18 ∧ T'.heap = h' ∧ Fr n0 locs' ∧ Old Z n0 h' ∧ AF Z h' ar (.object "java/lang/String") 0 (fun j => .ref (S j)) ∧ Exa Z h' ar "[Ljava/lang/String;" ∧ (∀ j, j < 0 → Exa Z h' (S j) "java/lang/String") ∧
      ∀ target, Steps p.tables e below (T'.setTop (mkF m 68 #[.val (.int p1), .val (.int p2), .val (.int p3), .val (.int p4), .val (.int (0 : Int32)), .val (.ref ar), .unset] [])) target → Steps p.tables e below (T0.setTop (mkF m 7 #[.val (.int p1), .val (.int p2), .val (.int p3), .val (.int p4), .val (.int (0 : Int32)), .unset, .unset] [(.int (0 : Int32))])) target := by
  obtain ⟨T1, h1, k1, X1, e1, E1, A1, EA1, OV1, st1⟩ := newRE X0 hx hZ hown (hw _ (List.mem_of_getElem? (i := 0) rfl)) (hw _ (List.mem_of_getElem? (i := 1) rfl)) e0 (g := (mkF m 7 #[.val (.int p1), .val (.int p2), .val (.int p3), .val (.int p4), .val (.int (0 : Int32)), .unset, .unset] [(.int (0 : Int32))])) rfl (hb hby at_7) rfl (by decide) (cap := 3) (by decide) (by decide) (by decide) (by decide) (ad := "[Ljava/lang/String;") (by decide)
  have OV := own_ova A1 EA1 OV1
  have Va1 : AF Z h1 h0.size (.object "java/lang/String") 0 (fun _ => .null) := AF.new A1 (by decide)
  have gar : n0 ≤ h0.size := own_old OL
  have OL1 := OL.ext E1
  have F1 : AF Z h1 h0.size (.object "java/lang/String") 0 (fun j => .ref ((own_S 0 0 0) j)) := Va1.congr (fun j hj => absurd hj (Nat.not_lt_zero j))
  have F2 : ∀ j, j < 0 → Exa Z h1 ((own_S 0 0 0) j) "java/lang/String" := fun j hj => absurd hj (Nat.not_lt_zero j)
  refine ⟨T1, h1, h0.size, (own_S 0 0 0), _, X1.more (by decide) (by decide), e1, N0, OL1, F1, EA1, F2, fun target kt => ?_⟩
  show Steps p.tables e below (T0.setTop (mkF m 7 #[.val (.int p1), .val (.int p2), .val (.int p3), .val (.int p4), .val (.int (0 : Int32)), .unset, .unset] [(.int (0 : Int32))])) _
  refine st1 _ ?_
  show Steps p.tables e below (T1.setTop (mkF m 10 #[.val (.int p1), .val (.int p2), .val (.int p3), .val (.int p4), .val (.int (0 : Int32)), .unset, .unset] [(.ref h0.size)])) _
  refine XS.astore X1.here hx rfl (hb hby at_10) rfl rfl (l' := #[.val (.int p1), .val (.int p2), .val (.int p3), .val (.int p4), .val (.int (0 : Int32)), .val (.ref h0.size), .unset]) rfl ?_
  show Steps p.tables e below (T1.setTop (mkF m 12 #[.val (.int p1), .val (.int p2), .val (.int p3), .val (.int p4), .val (.int (0 : Int32)), .val (.ref h0.size), .unset] [])) _
  refine XS.iload X1.here hx rfl (hb hby at_12) rfl ?_
  show Steps p.tables e below (T1.setTop (mkF m 14 #[.val (.int p1), .val (.int p2), .val (.int p3), .val (.int p4), .val (.int (0 : Int32)), .val (.ref h0.size), .unset] [(.int (0 : Int32))])) _
  refine XS.ifYes X1.here hx rfl (pc0 := 14) (pc' := 30) rfl (hb hby at_14) rfl ((if0 _ _).trans (flt (by decide)).2.2.2) (by decide) (by decide) ?_
  show Steps p.tables e below (T1.setTop (mkF m 30 #[.val (.int p1), .val (.int p2), .val (.int p3), .val (.int p4), .val (.int (0 : Int32)), .val (.ref h0.size), .unset] [])) _
  refine XS.iload X1.here hx rfl (hb hby at_30) rfl ?_
  show Steps p.tables e below (T1.setTop (mkF m 32 #[.val (.int p1), .val (.int p2), .val (.int p3), .val (.int p4), .val (.int (0 : Int32)), .val (.ref h0.size), .unset] [(.int (0 : Int32))])) _
  refine XS.iconst X1.here hx rfl (hb hby at_32) ?_
  show Steps p.tables e below (T1.setTop (mkF m 33 #[.val (.int p1), .val (.int p2), .val (.int p3), .val (.int p4), .val (.int (0 : Int32)), .val (.ref h0.size), .unset] [(.int (1 : Int32)), (.int (0 : Int32))])) _
  refine XS.icmpYes X1.here hx rfl (pc0 := 33) (pc' := 49) rfl (hb hby at_33) rfl (flt (by decide)).2.2.2 (by decide) (by decide) ?_
  show Steps p.tables e below (T1.setTop (mkF m 49 #[.val (.int p1), .val (.int p2), .val (.int p3), .val (.int p4), .val (.int (0 : Int32)), .val (.ref h0.size), .unset] [])) _
  refine XS.iload X1.here hx rfl (hb hby at_49) rfl ?_
  show Steps p.tables e below (T1.setTop (mkF m 51 #[.val (.int p1), .val (.int p2), .val (.int p3), .val (.int p4), .val (.int (0 : Int32)), .val (.ref h0.size), .unset] [(.int (0 : Int32))])) _
  refine XS.iconst X1.here hx rfl (hb hby at_51) ?_
  show Steps p.tables e below (T1.setTop (mkF m 52 #[.val (.int p1), .val (.int p2), .val (.int p3), .val (.int p4), .val (.int (0 : Int32)), .val (.ref h0.size), .unset] [(.int (2 : Int32)), (.int (0 : Int32))])) _
  refine XS.icmpYes X1.here hx rfl (pc0 := 52) (pc' := 68) rfl (hb hby at_52) rfl (flt (by decide)).2.2.2 (by decide) (by decide) ?_
  exact kt
theorem pd_6 : parseMethodDescriptor "(C)Ljava/lang/String;" = some ⟨[.char], some (.object "java/lang/String")⟩ := by decide +kernel
set_option maxRecDepth 65536 in
set_option maxHeartbeats 40000000 in
theorem fill_1 {p : Program} {l : Launch} {e : Env} {s : State} {m : MethodId} {args : Array Value} {below : List Frame} {meth : Method} {c : Code} {T0 : State} {locs : List Loc} {Z : State} {a0 : Array Value} {h0 : Heap} {n0 : Nat} (p1 p2 p3 p4 : Int32) (w : Int32)
    (X0 : Stand p l e room_1 s m args below meth c T0 locs 0 0) (hx : p.tables.exec = Jvm.exec) (hZ : Z.Warmed39 s.vm) (hw : ∀ d ∈ tables_1, d.before a0 Z = true) (hby : c.code = code) (hown : s.vm.findClass "com/example/graphweave/graphweave/ArgumentsHasNextPinLaw" = some m.cls) (e0 : T0.heap = h0) (hml : c.maxLocals = 7) (OL : Old Z n0 h0) (O2 : Sta Z Z.heap "java/lang/String" "COMPACT_STRINGS" "Z" (.int w)) (hw0 : ¬ w = (0 : Int32)) (N0 : Fr n0 locs) :
    ∃ (T' : State) (h' : Heap) (ar : Addr) (S : Nat → Addr) (locs' : List Loc), Stand p l e room_1 s m args below meth c T' locs' 7 18 ∧ T'.heap = h' ∧ Fr n0 locs' ∧ Old Z n0 h' ∧ AF Z h' ar (.object "java/lang/String") 1 (fun j => .ref (S j)) ∧ Exa Z h' ar "[Ljava/lang/String;" ∧ (∀ j, j < 1 → Exa Z h' (S j) "java/lang/String") ∧
      ∀ target, Steps p.tables e below (T'.setTop (mkF m 68 #[.val (.int p1), .val (.int p2), .val (.int p3), .val (.int p4), .val (.int (1 : Int32)), .val (.ref ar), .unset] [])) target → Steps p.tables e below (T0.setTop (mkF m 7 #[.val (.int p1), .val (.int p2), .val (.int p3), .val (.int p4), .val (.int (1 : Int32)), .unset, .unset] [(.int (1 : Int32))])) target := by
  obtain ⟨T1, h1, k1, X1, e1, E1, A1, EA1, OV1, st1⟩ := newRE X0 hx hZ hown (hw _ (List.mem_of_getElem? (i := 0) rfl)) (hw _ (List.mem_of_getElem? (i := 1) rfl)) e0 (g := (mkF m 7 #[.val (.int p1), .val (.int p2), .val (.int p3), .val (.int p4), .val (.int (1 : Int32)), .unset, .unset] [(.int (1 : Int32))])) rfl (hb hby at_7) rfl (by decide) (cap := 3) (by decide) (by decide) (by decide) (by decide) (ad := "[Ljava/lang/String;") (by decide)
  have OV := own_ova A1 EA1 OV1
  have Va1 : AF Z h1 h0.size (.object "java/lang/String") 1 (fun _ => .null) := AF.new A1 (by decide)
  have gar : n0 ≤ h0.size := own_old OL
  have OL1 := OL.ext E1
  obtain ⟨_, _, ⟨T2a, L2a, k2a, n2a⟩, -, X2a, ⟨Lc2a, hQ2a, l2a, y2a, z2a⟩, st2a⟩ := Jvm.LawKit.callS X1 hx (y := (⟨"java/lang/String", "valueOf", "(C)Ljava/lang/String;"⟩ : MethodName)) hown (mvT hZ (hw _ (List.mem_of_getElem? (i := 46) rfl))) (mvT hZ (hw _ (List.mem_of_getElem? (i := 47) rfl))) (mvT hZ (hw _ (List.mem_of_getElem? (i := 6) rfl))) (mvT hZ (hw _ (List.mem_of_getElem? (i := 48) rfl))) (by decide) (backOf (W := 2) (rm5 l Z a0 hw [] ((p2 &&& (255 : Int32)).toUInt32.toUInt16.toUInt32.toInt32) w h1 n0 (own_old OL1) OL1 O2 hw0 (own_255 p2)) hZ (hw _ (List.mem_of_getElem? (i := 48) rfl)) (hw _ (List.mem_of_getElem? (i := 6) rfl)) (by decide) (by decide)) (g := (mkF m 26 #[.val (.int p1), .val (.int p2), .val (.int p3), .val (.int p4), .val (.int (1 : Int32)), .val (.ref h0.size), .unset] [(.int ((p2 &&& (255 : Int32)).toUInt32.toUInt16.toUInt32.toInt32)), (.int (0 : Int32)), (.ref h0.size)])) rfl (by rw [hml]; rfl) (argsL := [(.int ((p2 &&& (255 : Int32)).toUInt32.toUInt16.toUInt32.toInt32))]) (rest := [(.int (0 : Int32)), (.ref h0.size)]) (lenOf pd_6 rfl) rfl (by show 2 * 0 + _ ≤ _; exact Nat.le_of_eq rfl) (hb hby at_26) (fun _ _ => ⟨rfl, e1, (by decide : 1 + 2 ≤ _), (by decide : 3 + 5 ≤ _)⟩)
  dsimp only [Pt.U, Pt.locs, Pt.cells, Pt.slots] at X2a l2a y2a z2a st2a hQ2a
  subst l2a y2a z2a
  obtain ⟨rfl, N2aq, K2a, Es2a⟩ := hQ2a
  have N2a := Fr.app N0 N2aq
  have e2a : T2a.heap = T2a.heap := rfl
  have OL2a := OL1.keep K2a all0
  obtain ⟨c2a, Ar2a, S2a, H2a⟩ := Va1.keep K2a nin0
  have EA2a := EA1.keep K2a
  obtain ⟨T2b, h2b, X2b, e2b, W2b, st2b⟩ := stR X2a hx hZ e2a Ar2a (j := (0 : Int32)) (by rw [S2a]; decide) rfl (own_sto Ar2a EA2a OV (Ins.self Es2a)) (g := (mkF m 29 #[.val (.int p1), .val (.int p2), .val (.int p3), .val (.int p4), .val (.int (1 : Int32)), .val (.ref h0.size), .unset] [(.ref h1.size), (.int (0 : Int32)), (.ref h0.size)])) rfl rfl (hb hby at_29)
  have N2b := Fr.snoc X2b N2a gar
  have Va2b := AF.set (⟨c2a, Ar2a, S2a, H2a⟩ : AF Z T2a.heap h0.size (.object "java/lang/String") 1 _) W2b
  have EA2b := EA2a.wr W2b
  have OL2b := OL2a.wr W2b gar
  have Es0_2b := Es2a.wr W2b
  have F1 : AF Z h2b h0.size (.object "java/lang/String") 1 (fun j => .ref ((own_S h1.size 0 0) j)) := Va2b.congr (fun j hj => by
    match j, hj with
    | 0, _ => exact rfl)
  have F2 : ∀ j, j < 1 → Exa Z h2b ((own_S h1.size 0 0) j) "java/lang/String" := fun j hj => by
    match j, hj with
    | 0, _ => exact Es0_2b
  refine ⟨T2b, h2b, h0.size, (own_S h1.size 0 0), _, X2b.more (by decide) (by decide), e2b, N2b, OL2b, F1, EA2b, F2, fun target kt => ?_⟩
  show Steps p.tables e below (T0.setTop (mkF m 7 #[.val (.int p1), .val (.int p2), .val (.int p3), .val (.int p4), .val (.int (1 : Int32)), .unset, .unset] [(.int (1 : Int32))])) _
  refine st1 _ ?_
  show Steps p.tables e below (T1.setTop (mkF m 10 #[.val (.int p1), .val (.int p2), .val (.int p3), .val (.int p4), .val (.int (1 : Int32)), .unset, .unset] [(.ref h0.size)])) _
  refine XS.astore X1.here hx rfl (hb hby at_10) rfl rfl (l' := #[.val (.int p1), .val (.int p2), .val (.int p3), .val (.int p4), .val (.int (1 : Int32)), .val (.ref h0.size), .unset]) rfl ?_
  show Steps p.tables e below (T1.setTop (mkF m 12 #[.val (.int p1), .val (.int p2), .val (.int p3), .val (.int p4), .val (.int (1 : Int32)), .val (.ref h0.size), .unset] [])) _
  refine XS.iload X1.here hx rfl (hb hby at_12) rfl ?_
  show Steps p.tables e below (T1.setTop (mkF m 14 #[.val (.int p1), .val (.int p2), .val (.int p3), .val (.int p4), .val (.int (1 : Int32)), .val (.ref h0.size), .unset] [(.int (1 : Int32))])) _
  refine XS.ifNo X1.here hx rfl (hb hby at_14) rfl ((if0 _ _).trans (tlt (by decide)).2.2.2) ?_
  show Steps p.tables e below (T1.setTop (mkF m 17 #[.val (.int p1), .val (.int p2), .val (.int p3), .val (.int p4), .val (.int (1 : Int32)), .val (.ref h0.size), .unset] [])) _
  refine XS.aload X1.here hx rfl (hb hby at_17) rfl rfl ?_
  show Steps p.tables e below (T1.setTop (mkF m 19 #[.val (.int p1), .val (.int p2), .val (.int p3), .val (.int p4), .val (.int (1 : Int32)), .val (.ref h0.size), .unset] [(.ref h0.size)])) _
  refine XS.iconst X1.here hx rfl (hb hby at_19) ?_
  show Steps p.tables e below (T1.setTop (mkF m 20 #[.val (.int p1), .val (.int p2), .val (.int p3), .val (.int p4), .val (.int (1 : Int32)), .val (.ref h0.size), .unset] [(.int (0 : Int32)), (.ref h0.size)])) _
  refine XS.iloadN X1.here hx rfl (hb hby at_20) rfl ?_
  show Steps p.tables e below (T1.setTop (mkF m 21 #[.val (.int p1), .val (.int p2), .val (.int p3), .val (.int p4), .val (.int (1 : Int32)), .val (.ref h0.size), .unset] [(.int p2), (.int (0 : Int32)), (.ref h0.size)])) _
  refine XS.sipush X1.here hx rfl (hb hby at_21) ?_
  show Steps p.tables e below (T1.setTop (mkF m 24 #[.val (.int p1), .val (.int p2), .val (.int p3), .val (.int p4), .val (.int (1 : Int32)), .val (.ref h0.size), .unset] [(.int (255 : Int32)), (.int p2), (.int (0 : Int32)), (.ref h0.size)])) _
  refine XS.iand X1.here hx rfl (hb hby at_24) rfl ?_
  show Steps p.tables e below (T1.setTop (mkF m 25 #[.val (.int p1), .val (.int p2), .val (.int p3), .val (.int p4), .val (.int (1 : Int32)), .val (.ref h0.size), .unset] [(.int (p2 &&& (255 : Int32))), (.int (0 : Int32)), (.ref h0.size)])) _
  refine XS.i2c X1.here hx rfl (hb hby at_25) rfl ?_
  show Steps p.tables e below (T1.setTop (mkF m 26 #[.val (.int p1), .val (.int p2), .val (.int p3), .val (.int p4), .val (.int (1 : Int32)), .val (.ref h0.size), .unset] [(.int ((p2 &&& (255 : Int32)).toUInt32.toUInt16.toUInt32.toInt32)), (.int (0 : Int32)), (.ref h0.size)])) _
  refine st2a _ ?_
  show Steps p.tables e below (T2a.setTop (mkF m 29 #[.val (.int p1), .val (.int p2), .val (.int p3), .val (.int p4), .val (.int (1 : Int32)), .val (.ref h0.size), .unset] [(.ref h1.size), (.int (0 : Int32)), (.ref h0.size)])) _
  refine st2b _ ?_
  show Steps p.tables e below (T2b.setTop (mkF m 30 #[.val (.int p1), .val (.int p2), .val (.int p3), .val (.int p4), .val (.int (1 : Int32)), .val (.ref h0.size), .unset] [])) _
  refine XS.iload X2b.here hx rfl (hb hby at_30) rfl ?_
  show Steps p.tables e below (T2b.setTop (mkF m 32 #[.val (.int p1), .val (.int p2), .val (.int p3), .val (.int p4), .val (.int (1 : Int32)), .val (.ref h0.size), .unset] [(.int (1 : Int32))])) _
  refine XS.iconst X2b.here hx rfl (hb hby at_32) ?_
  show Steps p.tables e below (T2b.setTop (mkF m 33 #[.val (.int p1), .val (.int p2), .val (.int p3), .val (.int p4), .val (.int (1 : Int32)), .val (.ref h0.size), .unset] [(.int (1 : Int32)), (.int (1 : Int32))])) _
  refine XS.icmpYes X2b.here hx rfl (pc0 := 33) (pc' := 49) rfl (hb hby at_33) rfl (flt (by decide)).2.2.2 (by decide) (by decide) ?_
  show Steps p.tables e below (T2b.setTop (mkF m 49 #[.val (.int p1), .val (.int p2), .val (.int p3), .val (.int p4), .val (.int (1 : Int32)), .val (.ref h0.size), .unset] [])) _
  refine XS.iload X2b.here hx rfl (hb hby at_49) rfl ?_
  show Steps p.tables e below (T2b.setTop (mkF m 51 #[.val (.int p1), .val (.int p2), .val (.int p3), .val (.int p4), .val (.int (1 : Int32)), .val (.ref h0.size), .unset] [(.int (1 : Int32))])) _
  refine XS.iconst X2b.here hx rfl (hb hby at_51) ?_
  show Steps p.tables e below (T2b.setTop (mkF m 52 #[.val (.int p1), .val (.int p2), .val (.int p3), .val (.int p4), .val (.int (1 : Int32)), .val (.ref h0.size), .unset] [(.int (2 : Int32)), (.int (1 : Int32))])) _
  refine XS.icmpYes X2b.here hx rfl (pc0 := 52) (pc' := 68) rfl (hb hby at_52) rfl (flt (by decide)).2.2.2 (by decide) (by decide) ?_
  exact kt
set_option maxRecDepth 65536 in
set_option maxHeartbeats 40000000 in
theorem fill_2 {p : Program} {l : Launch} {e : Env} {s : State} {m : MethodId} {args : Array Value} {below : List Frame} {meth : Method} {c : Code} {T0 : State} {locs : List Loc} {Z : State} {a0 : Array Value} {h0 : Heap} {n0 : Nat} (p1 p2 p3 p4 : Int32) (w : Int32)
    (X0 : Stand p l e room_1 s m args below meth c T0 locs 0 0) (hx : p.tables.exec = Jvm.exec) (hZ : Z.Warmed39 s.vm) (hw : ∀ d ∈ tables_1, d.before a0 Z = true) (hby : c.code = code) (hown : s.vm.findClass "com/example/graphweave/graphweave/ArgumentsHasNextPinLaw" = some m.cls) (e0 : T0.heap = h0) (hml : c.maxLocals = 7) (OL : Old Z n0 h0) (O2 : Sta Z Z.heap "java/lang/String" "COMPACT_STRINGS" "Z" (.int w)) (hw0 : ¬ w = (0 : Int32)) (N0 : Fr n0 locs) :
    ∃ (T' : State) (h' : Heap) (ar : Addr) (S : Nat → Addr) (locs' : List Loc), Stand p l e room_1 s m args below meth c T' locs' 7 18 ∧ T'.heap = h' ∧ Fr n0 locs' ∧ Old Z n0 h' ∧ AF Z h' ar (.object "java/lang/String") 2 (fun j => .ref (S j)) ∧ Exa Z h' ar "[Ljava/lang/String;" ∧ (∀ j, j < 2 → Exa Z h' (S j) "java/lang/String") ∧
      ∀ target, Steps p.tables e below (T'.setTop (mkF m 68 #[.val (.int p1), .val (.int p2), .val (.int p3), .val (.int p4), .val (.int (2 : Int32)), .val (.ref ar), .unset] [])) target → Steps p.tables e below (T0.setTop (mkF m 7 #[.val (.int p1), .val (.int p2), .val (.int p3), .val (.int p4), .val (.int (2 : Int32)), .unset, .unset] [(.int (2 : Int32))])) target := by
  obtain ⟨T1, h1, k1, X1, e1, E1, A1, EA1, OV1, st1⟩ := newRE X0 hx hZ hown (hw _ (List.mem_of_getElem? (i := 0) rfl)) (hw _ (List.mem_of_getElem? (i := 1) rfl)) e0 (g := (mkF m 7 #[.val (.int p1), .val (.int p2), .val (.int p3), .val (.int p4), .val (.int (2 : Int32)), .unset, .unset] [(.int (2 : Int32))])) rfl (hb hby at_7) rfl (by decide) (cap := 3) (by decide) (by decide) (by decide) (by decide) (ad := "[Ljava/lang/String;") (by decide)
  have OV := own_ova A1 EA1 OV1
  have Va1 : AF Z h1 h0.size (.object "java/lang/String") 2 (fun _ => .null) := AF.new A1 (by decide)
  have gar : n0 ≤ h0.size := own_old OL
  have OL1 := OL.ext E1
  obtain ⟨_, _, ⟨T2a, L2a, k2a, n2a⟩, -, X2a, ⟨Lc2a, hQ2a, l2a, y2a, z2a⟩, st2a⟩ := Jvm.LawKit.callS X1 hx (y := (⟨"java/lang/String", "valueOf", "(C)Ljava/lang/String;"⟩ : MethodName)) hown (mvT hZ (hw _ (List.mem_of_getElem? (i := 46) rfl))) (mvT hZ (hw _ (List.mem_of_getElem? (i := 47) rfl))) (mvT hZ (hw _ (List.mem_of_getElem? (i := 6) rfl))) (mvT hZ (hw _ (List.mem_of_getElem? (i := 48) rfl))) (by decide) (backOf (W := 2) (rm5 l Z a0 hw [] ((p2 &&& (255 : Int32)).toUInt32.toUInt16.toUInt32.toInt32) w h1 n0 (own_old OL1) OL1 O2 hw0 (own_255 p2)) hZ (hw _ (List.mem_of_getElem? (i := 48) rfl)) (hw _ (List.mem_of_getElem? (i := 6) rfl)) (by decide) (by decide)) (g := (mkF m 26 #[.val (.int p1), .val (.int p2), .val (.int p3), .val (.int p4), .val (.int (2 : Int32)), .val (.ref h0.size), .unset] [(.int ((p2 &&& (255 : Int32)).toUInt32.toUInt16.toUInt32.toInt32)), (.int (0 : Int32)), (.ref h0.size)])) rfl (by rw [hml]; rfl) (argsL := [(.int ((p2 &&& (255 : Int32)).toUInt32.toUInt16.toUInt32.toInt32))]) (rest := [(.int (0 : Int32)), (.ref h0.size)]) (lenOf pd_6 rfl) rfl (by show 2 * 0 + _ ≤ _; exact Nat.le_of_eq rfl) (hb hby at_26) (fun _ _ => ⟨rfl, e1, (by decide : 1 + 2 ≤ _), (by decide : 3 + 5 ≤ _)⟩)
  dsimp only [Pt.U, Pt.locs, Pt.cells, Pt.slots] at X2a l2a y2a z2a st2a hQ2a
  subst l2a y2a z2a
  obtain ⟨rfl, N2aq, K2a, Es2a⟩ := hQ2a
  have N2a := Fr.app N0 N2aq
  have e2a : T2a.heap = T2a.heap := rfl
  have OL2a := OL1.keep K2a all0
  obtain ⟨c2a, Ar2a, S2a, H2a⟩ := Va1.keep K2a nin0
  have EA2a := EA1.keep K2a
  obtain ⟨T2b, h2b, X2b, e2b, W2b, st2b⟩ := stR X2a hx hZ e2a Ar2a (j := (0 : Int32)) (by rw [S2a]; decide) rfl (own_sto Ar2a EA2a OV (Ins.self Es2a)) (g := (mkF m 29 #[.val (.int p1), .val (.int p2), .val (.int p3), .val (.int p4), .val (.int (2 : Int32)), .val (.ref h0.size), .unset] [(.ref h1.size), (.int (0 : Int32)), (.ref h0.size)])) rfl rfl (hb hby at_29)
  have N2b := Fr.snoc X2b N2a gar
  have Va2b := AF.set (⟨c2a, Ar2a, S2a, H2a⟩ : AF Z T2a.heap h0.size (.object "java/lang/String") 2 _) W2b
  have EA2b := EA2a.wr W2b
  have OL2b := OL2a.wr W2b gar
  have Es0_2b := Es2a.wr W2b
  obtain ⟨_, _, ⟨T3a, L3a, k3a, n3a⟩, -, X3a, ⟨Lc3a, hQ3a, l3a, y3a, z3a⟩, st3a⟩ := Jvm.LawKit.callS X2b hx (y := (⟨"java/lang/String", "valueOf", "(C)Ljava/lang/String;"⟩ : MethodName)) hown (mvT hZ (hw _ (List.mem_of_getElem? (i := 46) rfl))) (mvT hZ (hw _ (List.mem_of_getElem? (i := 47) rfl))) (mvT hZ (hw _ (List.mem_of_getElem? (i := 6) rfl))) (mvT hZ (hw _ (List.mem_of_getElem? (i := 48) rfl))) (by decide) (backOf (W := 2) (rm5 l Z a0 hw [] ((p3 &&& (255 : Int32)).toUInt32.toUInt16.toUInt32.toInt32) w h2b n0 (own_old OL2b) OL2b O2 hw0 (own_255 p3)) hZ (hw _ (List.mem_of_getElem? (i := 48) rfl)) (hw _ (List.mem_of_getElem? (i := 6) rfl)) (by decide) (by decide)) (g := (mkF m 45 #[.val (.int p1), .val (.int p2), .val (.int p3), .val (.int p4), .val (.int (2 : Int32)), .val (.ref h0.size), .unset] [(.int ((p3 &&& (255 : Int32)).toUInt32.toUInt16.toUInt32.toInt32)), (.int (1 : Int32)), (.ref h0.size)])) rfl (by rw [hml]; rfl) (argsL := [(.int ((p3 &&& (255 : Int32)).toUInt32.toUInt16.toUInt32.toInt32))]) (rest := [(.int (1 : Int32)), (.ref h0.size)]) (lenOf pd_6 rfl) rfl (by show 2 * 0 + _ ≤ _; exact Nat.le_of_eq rfl) (hb hby at_45) (fun _ _ => ⟨rfl, e2b, (by decide : 3 + 2 ≤ _), (by decide : 8 + 5 ≤ _)⟩)
  dsimp only [Pt.U, Pt.locs, Pt.cells, Pt.slots] at X3a l3a y3a z3a st3a hQ3a
  subst l3a y3a z3a
  obtain ⟨rfl, N3aq, K3a, Es3a⟩ := hQ3a
  have N3a := Fr.app N2b N3aq
  have e3a : T3a.heap = T3a.heap := rfl
  have OL3a := OL2b.keep K3a all0
  obtain ⟨c3a, Ar3a, S3a, H3a⟩ := Va2b.keep K3a nin0
  have EA3a := EA2b.keep K3a
  have Es0_3a := Es0_2b.keep K3a
  obtain ⟨T3b, h3b, X3b, e3b, W3b, st3b⟩ := stR X3a hx hZ e3a Ar3a (j := (1 : Int32)) (by rw [S3a]; decide) rfl (own_sto Ar3a EA3a OV (Ins.self Es3a)) (g := (mkF m 48 #[.val (.int p1), .val (.int p2), .val (.int p3), .val (.int p4), .val (.int (2 : Int32)), .val (.ref h0.size), .unset] [(.ref h2b.size), (.int (1 : Int32)), (.ref h0.size)])) rfl rfl (hb hby at_48)
  have N3b := Fr.snoc X3b N3a gar
  have Va3b := AF.set (⟨c3a, Ar3a, S3a, H3a⟩ : AF Z T3a.heap h0.size (.object "java/lang/String") 2 _) W3b
  have EA3b := EA3a.wr W3b
  have OL3b := OL3a.wr W3b gar
  have Es1_3b := Es3a.wr W3b
  have Es0_3b := Es0_3a.wr W3b
  have F1 : AF Z h3b h0.size (.object "java/lang/String") 2 (fun j => .ref ((own_S h1.size h2b.size 0) j)) := Va3b.congr (fun j hj => by
    match j, hj with
    | 0, _ => exact rfl
    | 1, _ => exact rfl)
  have F2 : ∀ j, j < 2 → Exa Z h3b ((own_S h1.size h2b.size 0) j) "java/lang/String" := fun j hj => by
    match j, hj with
    | 0, _ => exact Es0_3b
    | 1, _ => exact Es1_3b
  refine ⟨T3b, h3b, h0.size, (own_S h1.size h2b.size 0), _, X3b.more (by decide) (by decide), e3b, N3b, OL3b, F1, EA3b, F2, fun target kt => ?_⟩
  show Steps p.tables e below (T0.setTop (mkF m 7 #[.val (.int p1), .val (.int p2), .val (.int p3), .val (.int p4), .val (.int (2 : Int32)), .unset, .unset] [(.int (2 : Int32))])) _
  refine st1 _ ?_
  show Steps p.tables e below (T1.setTop (mkF m 10 #[.val (.int p1), .val (.int p2), .val (.int p3), .val (.int p4), .val (.int (2 : Int32)), .unset, .unset] [(.ref h0.size)])) _
  refine XS.astore X1.here hx rfl (hb hby at_10) rfl rfl (l' := #[.val (.int p1), .val (.int p2), .val (.int p3), .val (.int p4), .val (.int (2 : Int32)), .val (.ref h0.size), .unset]) rfl ?_
  show Steps p.tables e below (T1.setTop (mkF m 12 #[.val (.int p1), .val (.int p2), .val (.int p3), .val (.int p4), .val (.int (2 : Int32)), .val (.ref h0.size), .unset] [])) _
  refine XS.iload X1.here hx rfl (hb hby at_12) rfl ?_
  show Steps p.tables e below (T1.setTop (mkF m 14 #[.val (.int p1), .val (.int p2), .val (.int p3), .val (.int p4), .val (.int (2 : Int32)), .val (.ref h0.size), .unset] [(.int (2 : Int32))])) _
  refine XS.ifNo X1.here hx rfl (hb hby at_14) rfl ((if0 _ _).trans (tlt (by decide)).2.2.2) ?_
  show Steps p.tables e below (T1.setTop (mkF m 17 #[.val (.int p1), .val (.int p2), .val (.int p3), .val (.int p4), .val (.int (2 : Int32)), .val (.ref h0.size), .unset] [])) _
  refine XS.aload X1.here hx rfl (hb hby at_17) rfl rfl ?_
  show Steps p.tables e below (T1.setTop (mkF m 19 #[.val (.int p1), .val (.int p2), .val (.int p3), .val (.int p4), .val (.int (2 : Int32)), .val (.ref h0.size), .unset] [(.ref h0.size)])) _
  refine XS.iconst X1.here hx rfl (hb hby at_19) ?_
  show Steps p.tables e below (T1.setTop (mkF m 20 #[.val (.int p1), .val (.int p2), .val (.int p3), .val (.int p4), .val (.int (2 : Int32)), .val (.ref h0.size), .unset] [(.int (0 : Int32)), (.ref h0.size)])) _
  refine XS.iloadN X1.here hx rfl (hb hby at_20) rfl ?_
  show Steps p.tables e below (T1.setTop (mkF m 21 #[.val (.int p1), .val (.int p2), .val (.int p3), .val (.int p4), .val (.int (2 : Int32)), .val (.ref h0.size), .unset] [(.int p2), (.int (0 : Int32)), (.ref h0.size)])) _
  refine XS.sipush X1.here hx rfl (hb hby at_21) ?_
  show Steps p.tables e below (T1.setTop (mkF m 24 #[.val (.int p1), .val (.int p2), .val (.int p3), .val (.int p4), .val (.int (2 : Int32)), .val (.ref h0.size), .unset] [(.int (255 : Int32)), (.int p2), (.int (0 : Int32)), (.ref h0.size)])) _
  refine XS.iand X1.here hx rfl (hb hby at_24) rfl ?_
  show Steps p.tables e below (T1.setTop (mkF m 25 #[.val (.int p1), .val (.int p2), .val (.int p3), .val (.int p4), .val (.int (2 : Int32)), .val (.ref h0.size), .unset] [(.int (p2 &&& (255 : Int32))), (.int (0 : Int32)), (.ref h0.size)])) _
  refine XS.i2c X1.here hx rfl (hb hby at_25) rfl ?_
  show Steps p.tables e below (T1.setTop (mkF m 26 #[.val (.int p1), .val (.int p2), .val (.int p3), .val (.int p4), .val (.int (2 : Int32)), .val (.ref h0.size), .unset] [(.int ((p2 &&& (255 : Int32)).toUInt32.toUInt16.toUInt32.toInt32)), (.int (0 : Int32)), (.ref h0.size)])) _
  refine st2a _ ?_
  show Steps p.tables e below (T2a.setTop (mkF m 29 #[.val (.int p1), .val (.int p2), .val (.int p3), .val (.int p4), .val (.int (2 : Int32)), .val (.ref h0.size), .unset] [(.ref h1.size), (.int (0 : Int32)), (.ref h0.size)])) _
  refine st2b _ ?_
  show Steps p.tables e below (T2b.setTop (mkF m 30 #[.val (.int p1), .val (.int p2), .val (.int p3), .val (.int p4), .val (.int (2 : Int32)), .val (.ref h0.size), .unset] [])) _
  refine XS.iload X2b.here hx rfl (hb hby at_30) rfl ?_
  show Steps p.tables e below (T2b.setTop (mkF m 32 #[.val (.int p1), .val (.int p2), .val (.int p3), .val (.int p4), .val (.int (2 : Int32)), .val (.ref h0.size), .unset] [(.int (2 : Int32))])) _
  refine XS.iconst X2b.here hx rfl (hb hby at_32) ?_
  show Steps p.tables e below (T2b.setTop (mkF m 33 #[.val (.int p1), .val (.int p2), .val (.int p3), .val (.int p4), .val (.int (2 : Int32)), .val (.ref h0.size), .unset] [(.int (1 : Int32)), (.int (2 : Int32))])) _
  refine XS.icmpNo X2b.here hx rfl (hb hby at_33) rfl (tlt (by decide)).2.2.2 ?_
  show Steps p.tables e below (T2b.setTop (mkF m 36 #[.val (.int p1), .val (.int p2), .val (.int p3), .val (.int p4), .val (.int (2 : Int32)), .val (.ref h0.size), .unset] [])) _
  refine XS.aload X2b.here hx rfl (hb hby at_36) rfl rfl ?_
  show Steps p.tables e below (T2b.setTop (mkF m 38 #[.val (.int p1), .val (.int p2), .val (.int p3), .val (.int p4), .val (.int (2 : Int32)), .val (.ref h0.size), .unset] [(.ref h0.size)])) _
  refine XS.iconst X2b.here hx rfl (hb hby at_38) ?_
  show Steps p.tables e below (T2b.setTop (mkF m 39 #[.val (.int p1), .val (.int p2), .val (.int p3), .val (.int p4), .val (.int (2 : Int32)), .val (.ref h0.size), .unset] [(.int (1 : Int32)), (.ref h0.size)])) _
  refine XS.iloadN X2b.here hx rfl (hb hby at_39) rfl ?_
  show Steps p.tables e below (T2b.setTop (mkF m 40 #[.val (.int p1), .val (.int p2), .val (.int p3), .val (.int p4), .val (.int (2 : Int32)), .val (.ref h0.size), .unset] [(.int p3), (.int (1 : Int32)), (.ref h0.size)])) _
  refine XS.sipush X2b.here hx rfl (hb hby at_40) ?_
  show Steps p.tables e below (T2b.setTop (mkF m 43 #[.val (.int p1), .val (.int p2), .val (.int p3), .val (.int p4), .val (.int (2 : Int32)), .val (.ref h0.size), .unset] [(.int (255 : Int32)), (.int p3), (.int (1 : Int32)), (.ref h0.size)])) _
  refine XS.iand X2b.here hx rfl (hb hby at_43) rfl ?_
  show Steps p.tables e below (T2b.setTop (mkF m 44 #[.val (.int p1), .val (.int p2), .val (.int p3), .val (.int p4), .val (.int (2 : Int32)), .val (.ref h0.size), .unset] [(.int (p3 &&& (255 : Int32))), (.int (1 : Int32)), (.ref h0.size)])) _
  refine XS.i2c X2b.here hx rfl (hb hby at_44) rfl ?_
  show Steps p.tables e below (T2b.setTop (mkF m 45 #[.val (.int p1), .val (.int p2), .val (.int p3), .val (.int p4), .val (.int (2 : Int32)), .val (.ref h0.size), .unset] [(.int ((p3 &&& (255 : Int32)).toUInt32.toUInt16.toUInt32.toInt32)), (.int (1 : Int32)), (.ref h0.size)])) _
  refine st3a _ ?_
  show Steps p.tables e below (T3a.setTop (mkF m 48 #[.val (.int p1), .val (.int p2), .val (.int p3), .val (.int p4), .val (.int (2 : Int32)), .val (.ref h0.size), .unset] [(.ref h2b.size), (.int (1 : Int32)), (.ref h0.size)])) _
  refine st3b _ ?_
  show Steps p.tables e below (T3b.setTop (mkF m 49 #[.val (.int p1), .val (.int p2), .val (.int p3), .val (.int p4), .val (.int (2 : Int32)), .val (.ref h0.size), .unset] [])) _
  refine XS.iload X3b.here hx rfl (hb hby at_49) rfl ?_
  show Steps p.tables e below (T3b.setTop (mkF m 51 #[.val (.int p1), .val (.int p2), .val (.int p3), .val (.int p4), .val (.int (2 : Int32)), .val (.ref h0.size), .unset] [(.int (2 : Int32))])) _
  refine XS.iconst X3b.here hx rfl (hb hby at_51) ?_
  show Steps p.tables e below (T3b.setTop (mkF m 52 #[.val (.int p1), .val (.int p2), .val (.int p3), .val (.int p4), .val (.int (2 : Int32)), .val (.ref h0.size), .unset] [(.int (2 : Int32)), (.int (2 : Int32))])) _
  refine XS.icmpYes X3b.here hx rfl (pc0 := 52) (pc' := 68) rfl (hb hby at_52) rfl (flt (by decide)).2.2.2 (by decide) (by decide) ?_
  exact kt
set_option maxRecDepth 65536 in
set_option maxHeartbeats 40000000 in
theorem fill_3 {p : Program} {l : Launch} {e : Env} {s : State} {m : MethodId} {args : Array Value} {below : List Frame} {meth : Method} {c : Code} {T0 : State} {locs : List Loc} {Z : State} {a0 : Array Value} {h0 : Heap} {n0 : Nat} (p1 p2 p3 p4 : Int32) (w : Int32)
    (X0 : Stand p l e room_1 s m args below meth c T0 locs 0 0) (hx : p.tables.exec = Jvm.exec) (hZ : Z.Warmed39 s.vm) (hw : ∀ d ∈ tables_1, d.before a0 Z = true) (hby : c.code = code) (hown : s.vm.findClass "com/example/graphweave/graphweave/ArgumentsHasNextPinLaw" = some m.cls) (e0 : T0.heap = h0) (hml : c.maxLocals = 7) (OL : Old Z n0 h0) (O2 : Sta Z Z.heap "java/lang/String" "COMPACT_STRINGS" "Z" (.int w)) (hw0 : ¬ w = (0 : Int32)) (N0 : Fr n0 locs) :
    ∃ (T' : State) (h' : Heap) (ar : Addr) (S : Nat → Addr) (locs' : List Loc), Stand p l e room_1 s m args below meth c T' locs' 7 18 ∧ T'.heap = h' ∧ Fr n0 locs' ∧ Old Z n0 h' ∧ AF Z h' ar (.object "java/lang/String") 3 (fun j => .ref (S j)) ∧ Exa Z h' ar "[Ljava/lang/String;" ∧ (∀ j, j < 3 → Exa Z h' (S j) "java/lang/String") ∧
      ∀ target, Steps p.tables e below (T'.setTop (mkF m 68 #[.val (.int p1), .val (.int p2), .val (.int p3), .val (.int p4), .val (.int (3 : Int32)), .val (.ref ar), .unset] [])) target → Steps p.tables e below (T0.setTop (mkF m 7 #[.val (.int p1), .val (.int p2), .val (.int p3), .val (.int p4), .val (.int (3 : Int32)), .unset, .unset] [(.int (3 : Int32))])) target := by
  obtain ⟨T1, h1, k1, X1, e1, E1, A1, EA1, OV1, st1⟩ := newRE X0 hx hZ hown (hw _ (List.mem_of_getElem? (i := 0) rfl)) (hw _ (List.mem_of_getElem? (i := 1) rfl)) e0 (g := (mkF m 7 #[.val (.int p1), .val (.int p2), .val (.int p3), .val (.int p4), .val (.int (3 : Int32)), .unset, .unset] [(.int (3 : Int32))])) rfl (hb hby at_7) rfl (by decide) (cap := 3) (by decide) (by decide) (by decide) (by decide) (ad := "[Ljava/lang/String;") (by decide)
  have OV := own_ova A1 EA1 OV1
  have Va1 : AF Z h1 h0.size (.object "java/lang/String") 3 (fun _ => .null) := AF.new A1 (by decide)
  have gar : n0 ≤ h0.size := own_old OL
  have OL1 := OL.ext E1
  obtain ⟨_, _, ⟨T2a, L2a, k2a, n2a⟩, -, X2a, ⟨Lc2a, hQ2a, l2a, y2a, z2a⟩, st2a⟩ := Jvm.LawKit.callS X1 hx (y := (⟨"java/lang/String", "valueOf", "(C)Ljava/lang/String;"⟩ : MethodName)) hown (mvT hZ (hw _ (List.mem_of_getElem? (i := 46) rfl))) (mvT hZ (hw _ (List.mem_of_getElem? (i := 47) rfl))) (mvT hZ (hw _ (List.mem_of_getElem? (i := 6) rfl))) (mvT hZ (hw _ (List.mem_of_getElem? (i := 48) rfl))) (by decide) (backOf (W := 2) (rm5 l Z a0 hw [] ((p2 &&& (255 : Int32)).toUInt32.toUInt16.toUInt32.toInt32) w h1 n0 (own_old OL1) OL1 O2 hw0 (own_255 p2)) hZ (hw _ (List.mem_of_getElem? (i := 48) rfl)) (hw _ (List.mem_of_getElem? (i := 6) rfl)) (by decide) (by decide)) (g := (mkF m 26 #[.val (.int p1), .val (.int p2), .val (.int p3), .val (.int p4), .val (.int (3 : Int32)), .val (.ref h0.size), .unset] [(.int ((p2 &&& (255 : Int32)).toUInt32.toUInt16.toUInt32.toInt32)), (.int (0 : Int32)), (.ref h0.size)])) rfl (by rw [hml]; rfl) (argsL := [(.int ((p2 &&& (255 : Int32)).toUInt32.toUInt16.toUInt32.toInt32))]) (rest := [(.int (0 : Int32)), (.ref h0.size)]) (lenOf pd_6 rfl) rfl (by show 2 * 0 + _ ≤ _; exact Nat.le_of_eq rfl) (hb hby at_26) (fun _ _ => ⟨rfl, e1, (by decide : 1 + 2 ≤ _), (by decide : 3 + 5 ≤ _)⟩)
  dsimp only [Pt.U, Pt.locs, Pt.cells, Pt.slots] at X2a l2a y2a z2a st2a hQ2a
  subst l2a y2a z2a
  obtain ⟨rfl, N2aq, K2a, Es2a⟩ := hQ2a
  have N2a := Fr.app N0 N2aq
  have e2a : T2a.heap = T2a.heap := rfl
  have OL2a := OL1.keep K2a all0
  obtain ⟨c2a, Ar2a, S2a, H2a⟩ := Va1.keep K2a nin0
  have EA2a := EA1.keep K2a
  obtain ⟨T2b, h2b, X2b, e2b, W2b, st2b⟩ := stR X2a hx hZ e2a Ar2a (j := (0 : Int32)) (by rw [S2a]; decide) rfl (own_sto Ar2a EA2a OV (Ins.self Es2a)) (g := (mkF m 29 #[.val (.int p1), .val (.int p2), .val (.int p3), .val (.int p4), .val (.int (3 : Int32)), .val (.ref h0.size), .unset] [(.ref h1.size), (.int (0 : Int32)), (.ref h0.size)])) rfl rfl (hb hby at_29)
  have N2b := Fr.snoc X2b N2a gar
  have Va2b := AF.set (⟨c2a, Ar2a, S2a, H2a⟩ : AF Z T2a.heap h0.size (.object "java/lang/String") 3 _) W2b
  have EA2b := EA2a.wr W2b
  have OL2b := OL2a.wr W2b gar
  have Es0_2b := Es2a.wr W2b
  obtain ⟨_, _, ⟨T3a, L3a, k3a, n3a⟩, -, X3a, ⟨Lc3a, hQ3a, l3a, y3a, z3a⟩, st3a⟩ := Jvm.LawKit.callS X2b hx (y := (⟨"java/lang/String", "valueOf", "(C)Ljava/lang/String;"⟩ : MethodName)) hown (mvT hZ (hw _ (List.mem_of_getElem? (i := 46) rfl))) (mvT hZ (hw _ (List.mem_of_getElem? (i := 47) rfl))) (mvT hZ (hw _ (List.mem_of_getElem? (i := 6) rfl))) (mvT hZ (hw _ (List.mem_of_getElem? (i := 48) rfl))) (by decide) (backOf (W := 2) (rm5 l Z a0 hw [] ((p3 &&& (255 : Int32)).toUInt32.toUInt16.toUInt32.toInt32) w h2b n0 (own_old OL2b) OL2b O2 hw0 (own_255 p3)) hZ (hw _ (List.mem_of_getElem? (i := 48) rfl)) (hw _ (List.mem_of_getElem? (i := 6) rfl)) (by decide) (by decide)) (g := (mkF m 45 #[.val (.int p1), .val (.int p2), .val (.int p3), .val (.int p4), .val (.int (3 : Int32)), .val (.ref h0.size), .unset] [(.int ((p3 &&& (255 : Int32)).toUInt32.toUInt16.toUInt32.toInt32)), (.int (1 : Int32)), (.ref h0.size)])) rfl (by rw [hml]; rfl) (argsL := [(.int ((p3 &&& (255 : Int32)).toUInt32.toUInt16.toUInt32.toInt32))]) (rest := [(.int (1 : Int32)), (.ref h0.size)]) (lenOf pd_6 rfl) rfl (by show 2 * 0 + _ ≤ _; exact Nat.le_of_eq rfl) (hb hby at_45) (fun _ _ => ⟨rfl, e2b, (by decide : 3 + 2 ≤ _), (by decide : 8 + 5 ≤ _)⟩)
  dsimp only [Pt.U, Pt.locs, Pt.cells, Pt.slots] at X3a l3a y3a z3a st3a hQ3a
  subst l3a y3a z3a
  obtain ⟨rfl, N3aq, K3a, Es3a⟩ := hQ3a
  have N3a := Fr.app N2b N3aq
  have e3a : T3a.heap = T3a.heap := rfl
  have OL3a := OL2b.keep K3a all0
  obtain ⟨c3a, Ar3a, S3a, H3a⟩ := Va2b.keep K3a nin0
  have EA3a := EA2b.keep K3a
  have Es0_3a := Es0_2b.keep K3a
  obtain ⟨T3b, h3b, X3b, e3b, W3b, st3b⟩ := stR X3a hx hZ e3a Ar3a (j := (1 : Int32)) (by rw [S3a]; decide) rfl (own_sto Ar3a EA3a OV (Ins.self Es3a)) (g := (mkF m 48 #[.val (.int p1), .val (.int p2), .val (.int p3), .val (.int p4), .val (.int (3 : Int32)), .val (.ref h0.size), .unset] [(.ref h2b.size), (.int (1 : Int32)), (.ref h0.size)])) rfl rfl (hb hby at_48)
  have N3b := Fr.snoc X3b N3a gar
  have Va3b := AF.set (⟨c3a, Ar3a, S3a, H3a⟩ : AF Z T3a.heap h0.size (.object "java/lang/String") 3 _) W3b
  have EA3b := EA3a.wr W3b
  have OL3b := OL3a.wr W3b gar
  have Es1_3b := Es3a.wr W3b
  have Es0_3b := Es0_3a.wr W3b
  obtain ⟨_, _, ⟨T4a, L4a, k4a, n4a⟩, -, X4a, ⟨Lc4a, hQ4a, l4a, y4a, z4a⟩, st4a⟩ := Jvm.LawKit.callS X3b hx (y := (⟨"java/lang/String", "valueOf", "(C)Ljava/lang/String;"⟩ : MethodName)) hown (mvT hZ (hw _ (List.mem_of_getElem? (i := 46) rfl))) (mvT hZ (hw _ (List.mem_of_getElem? (i := 47) rfl))) (mvT hZ (hw _ (List.mem_of_getElem? (i := 6) rfl))) (mvT hZ (hw _ (List.mem_of_getElem? (i := 48) rfl))) (by decide) (backOf (W := 2) (rm5 l Z a0 hw [] ((p4 &&& (255 : Int32)).toUInt32.toUInt16.toUInt32.toInt32) w h3b n0 (own_old OL3b) OL3b O2 hw0 (own_255 p4)) hZ (hw _ (List.mem_of_getElem? (i := 48) rfl)) (hw _ (List.mem_of_getElem? (i := 6) rfl)) (by decide) (by decide)) (g := (mkF m 64 #[.val (.int p1), .val (.int p2), .val (.int p3), .val (.int p4), .val (.int (3 : Int32)), .val (.ref h0.size), .unset] [(.int ((p4 &&& (255 : Int32)).toUInt32.toUInt16.toUInt32.toInt32)), (.int (2 : Int32)), (.ref h0.size)])) rfl (by rw [hml]; rfl) (argsL := [(.int ((p4 &&& (255 : Int32)).toUInt32.toUInt16.toUInt32.toInt32))]) (rest := [(.int (2 : Int32)), (.ref h0.size)]) (lenOf pd_6 rfl) rfl (by show 2 * 0 + _ ≤ _; exact Nat.le_of_eq rfl) (hb hby at_64) (fun _ _ => ⟨rfl, e3b, (by decide : 5 + 2 ≤ _), (by decide : 13 + 5 ≤ _)⟩)
  dsimp only [Pt.U, Pt.locs, Pt.cells, Pt.slots] at X4a l4a y4a z4a st4a hQ4a
  subst l4a y4a z4a
  obtain ⟨rfl, N4aq, K4a, Es4a⟩ := hQ4a
  have N4a := Fr.app N3b N4aq
  have e4a : T4a.heap = T4a.heap := rfl
  have OL4a := OL3b.keep K4a all0
  obtain ⟨c4a, Ar4a, S4a, H4a⟩ := Va3b.keep K4a nin0
  have EA4a := EA3b.keep K4a
  have Es0_4a := Es0_3b.keep K4a
  have Es1_4a := Es1_3b.keep K4a
  obtain ⟨T4b, h4b, X4b, e4b, W4b, st4b⟩ := stR X4a hx hZ e4a Ar4a (j := (2 : Int32)) (by rw [S4a]; decide) rfl (own_sto Ar4a EA4a OV (Ins.self Es4a)) (g := (mkF m 67 #[.val (.int p1), .val (.int p2), .val (.int p3), .val (.int p4), .val (.int (3 : Int32)), .val (.ref h0.size), .unset] [(.ref h3b.size), (.int (2 : Int32)), (.ref h0.size)])) rfl rfl (hb hby at_67)
  have N4b := Fr.snoc X4b N4a gar
  have Va4b := AF.set (⟨c4a, Ar4a, S4a, H4a⟩ : AF Z T4a.heap h0.size (.object "java/lang/String") 3 _) W4b
  have EA4b := EA4a.wr W4b
  have OL4b := OL4a.wr W4b gar
  have Es2_4b := Es4a.wr W4b
  have Es0_4b := Es0_4a.wr W4b
  have Es1_4b := Es1_4a.wr W4b
  have F1 : AF Z h4b h0.size (.object "java/lang/String") 3 (fun j => .ref ((own_S h1.size h2b.size h3b.size) j)) := Va4b.congr (fun j hj => by
    match j, hj with
    | 0, _ => exact rfl
    | 1, _ => exact rfl
    | 2, _ => exact rfl)
  have F2 : ∀ j, j < 3 → Exa Z h4b ((own_S h1.size h2b.size h3b.size) j) "java/lang/String" := fun j hj => by
    match j, hj with
    | 0, _ => exact Es0_4b
    | 1, _ => exact Es1_4b
    | 2, _ => exact Es2_4b
  refine ⟨T4b, h4b, h0.size, (own_S h1.size h2b.size h3b.size), _, X4b.more (by decide) (by decide), e4b, N4b, OL4b, F1, EA4b, F2, fun target kt => ?_⟩
  show Steps p.tables e below (T0.setTop (mkF m 7 #[.val (.int p1), .val (.int p2), .val (.int p3), .val (.int p4), .val (.int (3 : Int32)), .unset, .unset] [(.int (3 : Int32))])) _
  refine st1 _ ?_
  show Steps p.tables e below (T1.setTop (mkF m 10 #[.val (.int p1), .val (.int p2), .val (.int p3), .val (.int p4), .val (.int (3 : Int32)), .unset, .unset] [(.ref h0.size)])) _
  refine XS.astore X1.here hx rfl (hb hby at_10) rfl rfl (l' := #[.val (.int p1), .val (.int p2), .val (.int p3), .val (.int p4), .val (.int (3 : Int32)), .val (.ref h0.size), .unset]) rfl ?_
  show Steps p.tables e below (T1.setTop (mkF m 12 #[.val (.int p1), .val (.int p2), .val (.int p3), .val (.int p4), .val (.int (3 : Int32)), .val (.ref h0.size), .unset] [])) _
  refine XS.iload X1.here hx rfl (hb hby at_12) rfl ?_
  show Steps p.tables e below (T1.setTop (mkF m 14 #[.val (.int p1), .val (.int p2), .val (.int p3), .val (.int p4), .val (.int (3 : Int32)), .val (.ref h0.size), .unset] [(.int (3 : Int32))])) _
  refine XS.ifNo X1.here hx rfl (hb hby at_14) rfl ((if0 _ _).trans (tlt (by decide)).2.2.2) ?_
  show Steps p.tables e below (T1.setTop (mkF m 17 #[.val (.int p1), .val (.int p2), .val (.int p3), .val (.int p4), .val (.int (3 : Int32)), .val (.ref h0.size), .unset] [])) _
  refine XS.aload X1.here hx rfl (hb hby at_17) rfl rfl ?_
  show Steps p.tables e below (T1.setTop (mkF m 19 #[.val (.int p1), .val (.int p2), .val (.int p3), .val (.int p4), .val (.int (3 : Int32)), .val (.ref h0.size), .unset] [(.ref h0.size)])) _
  refine XS.iconst X1.here hx rfl (hb hby at_19) ?_
  show Steps p.tables e below (T1.setTop (mkF m 20 #[.val (.int p1), .val (.int p2), .val (.int p3), .val (.int p4), .val (.int (3 : Int32)), .val (.ref h0.size), .unset] [(.int (0 : Int32)), (.ref h0.size)])) _
  refine XS.iloadN X1.here hx rfl (hb hby at_20) rfl ?_
  show Steps p.tables e below (T1.setTop (mkF m 21 #[.val (.int p1), .val (.int p2), .val (.int p3), .val (.int p4), .val (.int (3 : Int32)), .val (.ref h0.size), .unset] [(.int p2), (.int (0 : Int32)), (.ref h0.size)])) _
  refine XS.sipush X1.here hx rfl (hb hby at_21) ?_
  show Steps p.tables e below (T1.setTop (mkF m 24 #[.val (.int p1), .val (.int p2), .val (.int p3), .val (.int p4), .val (.int (3 : Int32)), .val (.ref h0.size), .unset] [(.int (255 : Int32)), (.int p2), (.int (0 : Int32)), (.ref h0.size)])) _
  refine XS.iand X1.here hx rfl (hb hby at_24) rfl ?_
  show Steps p.tables e below (T1.setTop (mkF m 25 #[.val (.int p1), .val (.int p2), .val (.int p3), .val (.int p4), .val (.int (3 : Int32)), .val (.ref h0.size), .unset] [(.int (p2 &&& (255 : Int32))), (.int (0 : Int32)), (.ref h0.size)])) _
  refine XS.i2c X1.here hx rfl (hb hby at_25) rfl ?_
  show Steps p.tables e below (T1.setTop (mkF m 26 #[.val (.int p1), .val (.int p2), .val (.int p3), .val (.int p4), .val (.int (3 : Int32)), .val (.ref h0.size), .unset] [(.int ((p2 &&& (255 : Int32)).toUInt32.toUInt16.toUInt32.toInt32)), (.int (0 : Int32)), (.ref h0.size)])) _
  refine st2a _ ?_
  show Steps p.tables e below (T2a.setTop (mkF m 29 #[.val (.int p1), .val (.int p2), .val (.int p3), .val (.int p4), .val (.int (3 : Int32)), .val (.ref h0.size), .unset] [(.ref h1.size), (.int (0 : Int32)), (.ref h0.size)])) _
  refine st2b _ ?_
  show Steps p.tables e below (T2b.setTop (mkF m 30 #[.val (.int p1), .val (.int p2), .val (.int p3), .val (.int p4), .val (.int (3 : Int32)), .val (.ref h0.size), .unset] [])) _
  refine XS.iload X2b.here hx rfl (hb hby at_30) rfl ?_
  show Steps p.tables e below (T2b.setTop (mkF m 32 #[.val (.int p1), .val (.int p2), .val (.int p3), .val (.int p4), .val (.int (3 : Int32)), .val (.ref h0.size), .unset] [(.int (3 : Int32))])) _
  refine XS.iconst X2b.here hx rfl (hb hby at_32) ?_
  show Steps p.tables e below (T2b.setTop (mkF m 33 #[.val (.int p1), .val (.int p2), .val (.int p3), .val (.int p4), .val (.int (3 : Int32)), .val (.ref h0.size), .unset] [(.int (1 : Int32)), (.int (3 : Int32))])) _
  refine XS.icmpNo X2b.here hx rfl (hb hby at_33) rfl (tlt (by decide)).2.2.2 ?_
  show Steps p.tables e below (T2b.setTop (mkF m 36 #[.val (.int p1), .val (.int p2), .val (.int p3), .val (.int p4), .val (.int (3 : Int32)), .val (.ref h0.size), .unset] [])) _
  refine XS.aload X2b.here hx rfl (hb hby at_36) rfl rfl ?_
  show Steps p.tables e below (T2b.setTop (mkF m 38 #[.val (.int p1), .val (.int p2), .val (.int p3), .val (.int p4), .val (.int (3 : Int32)), .val (.ref h0.size), .unset] [(.ref h0.size)])) _
  refine XS.iconst X2b.here hx rfl (hb hby at_38) ?_
  show Steps p.tables e below (T2b.setTop (mkF m 39 #[.val (.int p1), .val (.int p2), .val (.int p3), .val (.int p4), .val (.int (3 : Int32)), .val (.ref h0.size), .unset] [(.int (1 : Int32)), (.ref h0.size)])) _
  refine XS.iloadN X2b.here hx rfl (hb hby at_39) rfl ?_
  show Steps p.tables e below (T2b.setTop (mkF m 40 #[.val (.int p1), .val (.int p2), .val (.int p3), .val (.int p4), .val (.int (3 : Int32)), .val (.ref h0.size), .unset] [(.int p3), (.int (1 : Int32)), (.ref h0.size)])) _
  refine XS.sipush X2b.here hx rfl (hb hby at_40) ?_
  show Steps p.tables e below (T2b.setTop (mkF m 43 #[.val (.int p1), .val (.int p2), .val (.int p3), .val (.int p4), .val (.int (3 : Int32)), .val (.ref h0.size), .unset] [(.int (255 : Int32)), (.int p3), (.int (1 : Int32)), (.ref h0.size)])) _
  refine XS.iand X2b.here hx rfl (hb hby at_43) rfl ?_
  show Steps p.tables e below (T2b.setTop (mkF m 44 #[.val (.int p1), .val (.int p2), .val (.int p3), .val (.int p4), .val (.int (3 : Int32)), .val (.ref h0.size), .unset] [(.int (p3 &&& (255 : Int32))), (.int (1 : Int32)), (.ref h0.size)])) _
  refine XS.i2c X2b.here hx rfl (hb hby at_44) rfl ?_
  show Steps p.tables e below (T2b.setTop (mkF m 45 #[.val (.int p1), .val (.int p2), .val (.int p3), .val (.int p4), .val (.int (3 : Int32)), .val (.ref h0.size), .unset] [(.int ((p3 &&& (255 : Int32)).toUInt32.toUInt16.toUInt32.toInt32)), (.int (1 : Int32)), (.ref h0.size)])) _
  refine st3a _ ?_
  show Steps p.tables e below (T3a.setTop (mkF m 48 #[.val (.int p1), .val (.int p2), .val (.int p3), .val (.int p4), .val (.int (3 : Int32)), .val (.ref h0.size), .unset] [(.ref h2b.size), (.int (1 : Int32)), (.ref h0.size)])) _
  refine st3b _ ?_
  show Steps p.tables e below (T3b.setTop (mkF m 49 #[.val (.int p1), .val (.int p2), .val (.int p3), .val (.int p4), .val (.int (3 : Int32)), .val (.ref h0.size), .unset] [])) _
  refine XS.iload X3b.here hx rfl (hb hby at_49) rfl ?_
  show Steps p.tables e below (T3b.setTop (mkF m 51 #[.val (.int p1), .val (.int p2), .val (.int p3), .val (.int p4), .val (.int (3 : Int32)), .val (.ref h0.size), .unset] [(.int (3 : Int32))])) _
  refine XS.iconst X3b.here hx rfl (hb hby at_51) ?_
  show Steps p.tables e below (T3b.setTop (mkF m 52 #[.val (.int p1), .val (.int p2), .val (.int p3), .val (.int p4), .val (.int (3 : Int32)), .val (.ref h0.size), .unset] [(.int (2 : Int32)), (.int (3 : Int32))])) _
  refine XS.icmpNo X3b.here hx rfl (hb hby at_52) rfl (tlt (by decide)).2.2.2 ?_
  show Steps p.tables e below (T3b.setTop (mkF m 55 #[.val (.int p1), .val (.int p2), .val (.int p3), .val (.int p4), .val (.int (3 : Int32)), .val (.ref h0.size), .unset] [])) _
  refine XS.aload X3b.here hx rfl (hb hby at_55) rfl rfl ?_
  show Steps p.tables e below (T3b.setTop (mkF m 57 #[.val (.int p1), .val (.int p2), .val (.int p3), .val (.int p4), .val (.int (3 : Int32)), .val (.ref h0.size), .unset] [(.ref h0.size)])) _
  refine XS.iconst X3b.here hx rfl (hb hby at_57) ?_
  show Steps p.tables e below (T3b.setTop (mkF m 58 #[.val (.int p1), .val (.int p2), .val (.int p3), .val (.int p4), .val (.int (3 : Int32)), .val (.ref h0.size), .unset] [(.int (2 : Int32)), (.ref h0.size)])) _
  refine XS.iloadN X3b.here hx rfl (hb hby at_58) rfl ?_
  show Steps p.tables e below (T3b.setTop (mkF m 59 #[.val (.int p1), .val (.int p2), .val (.int p3), .val (.int p4), .val (.int (3 : Int32)), .val (.ref h0.size), .unset] [(.int p4), (.int (2 : Int32)), (.ref h0.size)])) _
  refine XS.sipush X3b.here hx rfl (hb hby at_59) ?_
  show Steps p.tables e below (T3b.setTop (mkF m 62 #[.val (.int p1), .val (.int p2), .val (.int p3), .val (.int p4), .val (.int (3 : Int32)), .val (.ref h0.size), .unset] [(.int (255 : Int32)), (.int p4), (.int (2 : Int32)), (.ref h0.size)])) _
  refine XS.iand X3b.here hx rfl (hb hby at_62) rfl ?_
  show Steps p.tables e below (T3b.setTop (mkF m 63 #[.val (.int p1), .val (.int p2), .val (.int p3), .val (.int p4), .val (.int (3 : Int32)), .val (.ref h0.size), .unset] [(.int (p4 &&& (255 : Int32))), (.int (2 : Int32)), (.ref h0.size)])) _
  refine XS.i2c X3b.here hx rfl (hb hby at_63) rfl ?_
  show Steps p.tables e below (T3b.setTop (mkF m 64 #[.val (.int p1), .val (.int p2), .val (.int p3), .val (.int p4), .val (.int (3 : Int32)), .val (.ref h0.size), .unset] [(.int ((p4 &&& (255 : Int32)).toUInt32.toUInt16.toUInt32.toInt32)), (.int (2 : Int32)), (.ref h0.size)])) _
  refine st4a _ ?_
  show Steps p.tables e below (T4a.setTop (mkF m 67 #[.val (.int p1), .val (.int p2), .val (.int p3), .val (.int p4), .val (.int (3 : Int32)), .val (.ref h0.size), .unset] [(.ref h3b.size), (.int (2 : Int32)), (.ref h0.size)])) _
  refine st4b _ ?_
  exact kt
set_option maxRecDepth 65536 in
set_option maxHeartbeats 40000000 in
theorem fill {p : Program} {l : Launch} {e : Env} {s : State} {m : MethodId} {args : Array Value} {below : List Frame} {meth : Method} {c : Code} {T0 : State} {locs : List Loc} {Z : State} {a0 : Array Value} {h0 : Heap} {n0 : Nat} (p1 p2 p3 p4 : Int32) (w : Int32) (n : Nat) (hn : n ≤ 3)
    (X0 : Stand p l e room_1 s m args below meth c T0 locs 0 0) (hx : p.tables.exec = Jvm.exec) (hZ : Z.Warmed39 s.vm) (hw : ∀ d ∈ tables_1, d.before a0 Z = true) (hby : c.code = code) (hown : s.vm.findClass "com/example/graphweave/graphweave/ArgumentsHasNextPinLaw" = some m.cls) (e0 : T0.heap = h0) (hml : c.maxLocals = 7) (OL : Old Z n0 h0) (O2 : Sta Z Z.heap "java/lang/String" "COMPACT_STRINGS" "Z" (.int w)) (hw0 : ¬ w = (0 : Int32)) (N0 : Fr n0 locs) :
    ∃ (T' : State) (h' : Heap) (ar : Addr) (S : Nat → Addr) (locs' : List Loc), Stand p l e room_1 s m args below meth c T' locs' 7 18 ∧ T'.heap = h' ∧ Fr n0 locs' ∧ Old Z n0 h' ∧ AF Z h' ar (.object "java/lang/String") n (fun j => .ref (S j)) ∧ Exa Z h' ar "[Ljava/lang/String;" ∧ (∀ j, j < n → Exa Z h' (S j) "java/lang/String") ∧
      ∀ target, Steps p.tables e below (T'.setTop (mkF m 68 #[.val (.int p1), .val (.int p2), .val (.int p3), .val (.int p4), .val (.int (Int32.ofNat n)), .val (.ref ar), .unset] [])) target → Steps p.tables e below (T0.setTop (mkF m 7 #[.val (.int p1), .val (.int p2), .val (.int p3), .val (.int p4), .val (.int (Int32.ofNat n)), .unset, .unset] [(.int (Int32.ofNat n))])) target := by
  rcases (by omega : n = 0 ∨ n = 1 ∨ n = 2 ∨ n = 3) with rfl | rfl | rfl | rfl
  · exact fill_0 p1 p2 p3 p4 w X0 hx hZ hw hby hown e0 hml OL O2 hw0 N0
  · exact fill_1 p1 p2 p3 p4 w X0 hx hZ hw hby hown e0 hml OL O2 hw0 N0
  · exact fill_2 p1 p2 p3 p4 w X0 hx hZ hw hby hown e0 hml OL O2 hw0 N0
  · exact fill_3 p1 p2 p3 p4 w X0 hx hZ hw hby hown e0 hml OL O2 hw0 N0
theorem pn_0 : plainName "com/example/graphweave/graphweave/ArgumentsHasNextPinLaw" = true := by first | (simp [plainName, overriddenIn]; done) | decide +kernel
def Q0 (n0 : Nat) (v : Option Value) (L : List Loc) : Prop := v = some (.int (1 : Int32)) ∧ Fr n0 L
theorem own_atoms {Z : State} {a0 : Array Value} (hw : ∀ d ∈ tables_1, d.before a0 Z = true) : ∀ a ∈ Bundle.stringAtoms, a.before a0 Z = true := by
  intro a ha
  simp only [Bundle.stringAtoms, List.mem_cons, List.not_mem_nil, or_false] at ha
  rcases ha with rfl | rfl | rfl | rfl | rfl | rfl | rfl
  · exact (hw _ (List.mem_of_getElem? (i := 6) rfl))
  · exact (hw _ (List.mem_of_getElem? (i := 7) rfl))
  · exact (hw _ (List.mem_of_getElem? (i := 8) rfl))
  · exact (hw _ (List.mem_of_getElem? (i := 9) rfl))
  · exact (hw _ (List.mem_of_getElem? (i := 10) rfl))
  · exact (hw _ (List.mem_of_getElem? (i := 11) rfl))
  · exact (hw _ (List.mem_of_getElem? (i := 12) rfl))
theorem pd_7 : parseMethodDescriptor "(Ljava/lang/String;Ljava/lang/String;[Ljava/lang/String;)V" = some ⟨[(.object "java/lang/String"), (.object "java/lang/String"), (.array (.object "java/lang/String"))], none⟩ := by decide +kernel
theorem pd_8 : parseMethodDescriptor "(Lcom/example/graphweave/graphweave/Arguments;[Ljava/lang/String;II)Z" = some ⟨[(.object "com/example/graphweave/graphweave/Arguments"), (.array (.object "java/lang/String")), .int, .int], some .boolean⟩ := by decide +kernel
set_option maxRecDepth 65536 in
set_option maxHeartbeats 40000000 in
theorem rm0 (l : Launch) (Z : State) (a0 : Array Value) (hw : ∀ d ∈ tables_1, d.before a0 Z = true) (ws : List Jvm.Cond) (p1 p2 p3 p4 : Int32) (w : Int32) (h0 : Heap) (n0 : Nat) (OL : Old Z n0 h0) (O2 : Sta Z Z.heap "java/lang/String" "COMPACT_STRINGS" "Z" (.int w)) (hw0 : ¬ w = (0 : Int32)) :
    MetFree l x (head1 (Jvm.Cond.code x code maxLocals ret :: ws) room_1) (fun a U => a = #[(.int p1), (.int p2), (.int p3), (.int p4)] ∧ Z.Warmed39 U.vm ∧ U.heap = h0) (fun _ _ _ _ _ => True) (fun _ U o U' => ∃ v L, o = .returned v ∧ Q0 n0 v L ∧ ReturnedEndW U o U' L room_1.cells room_1.slots) := by
  refine MetFree.of_bodySF (plainFor_of_name pn_0) hisR ?_
  intro p e s m args below meth c s₁ Bd hml0 hP hK
  obtain ⟨rfl, hZ, hh⟩ := hP
  have hx := Bd.exec
  have hby := Bd.bytes
  have hml : c.maxLocals = 7 := hml0
  have hown : s.vm.findClass "com/example/graphweave/graphweave/ArgumentsHasNextPinLaw" = some m.cls := findClass_of_methodNamed Bd.named
  have X0 : Stand p l e room_1 s m #[(.int p1), (.int p2), (.int p3), (.int p4)] below meth c s₁ [] 0 0 := Stand.of_body Bd
  have e0 : s₁.heap = h0 := by rw [← hh, Bd.state]; rfl
  have N0 := Fr.nil n0
  have pre0 : ∀ t, Steps p.tables e below (s₁.setTop (mkF m 0 #[.val (.int p1), .val (.int p2), .val (.int p3), .val (.int p4), .unset, .unset, .unset] [])) t → Steps p.tables e below (s₁.setTop (entryFrame m #[(.int p1), (.int p2), (.int p3), (.int p4)] maxLocals)) t := fun t k => castTop (by first | (simp [entryFrame, mkF, argsToLocals, Value.category, maxLocals]; done) | rfl) k
  obtain ⟨n, hn, en⟩ := own_len p1
  obtain ⟨T1, h1, ar, S, L1, X1, e1, N1, OL1, V1, EA1, ES1, st1⟩ := fill p1 p2 p3 p4 w n hn X0 hx hZ hw hby hown e0 hml OL O2 hw0 N0
  obtain ⟨T2, h2, X2, e2, E2, A2, D2, -, st2⟩ := newO X1 hx hZ hown (hw _ (List.mem_of_getElem? (i := 2) rfl)) (hw _ (List.mem_of_getElem? (i := 3) rfl)) (hw _ (List.mem_of_getElem? (i := 4) rfl)) e1 (g := (mkF m 68 #[.val (.int p1), .val (.int p2), .val (.int p3), .val (.int p4), .val (.int (Int32.ofNat n)), .val (.ref ar), .unset] [])) rfl (hb hby at_68) (by decide) (by decide)
  have Fc2 : Fld Z h2 h1.size "com/example/graphweave/graphweave/Arguments" "command" "Ljava/lang/String;" .null := D2 (Or.inr (hw _ (List.mem_of_getElem? (i := 21) rfl))) (ty := (.object "java/lang/String")) (by decide)
  have Fu2 : Fld Z h2 h1.size "com/example/graphweave/graphweave/Arguments" "usage" "Ljava/lang/String;" .null := D2 (Or.inr (hw _ (List.mem_of_getElem? (i := 23) rfl))) (ty := (.object "java/lang/String")) (by decide)
  have Fa2 : Fld Z h2 h1.size "com/example/graphweave/graphweave/Arguments" "args" "[Ljava/lang/String;" .null := D2 (Or.inr (hw _ (List.mem_of_getElem? (i := 34) rfl))) (ty := (.array (.object "java/lang/String"))) (by decide)
  have Fn2 : Fld Z h2 h1.size "com/example/graphweave/graphweave/Arguments" "next" "I" (.int (0 : Int32)) := D2 (Or.inl (hw _ (List.mem_of_getElem? (i := 45) rfl))) (ty := .int) (by decide)
  obtain ⟨sc, T3, h3, k3, X3, e3, E3, S3, hk3, hZ3, hown3, st3⟩ := ldcS (s := s) (vm0 := s.vm) X2 hx hZ (own := "com/example/graphweave/graphweave/ArgumentsHasNextPinLaw") hown (hw _ (List.mem_of_getElem? (i := 5) rfl)) (own_atoms hw) e2 ((State.WarmedH.refl s).since 0) (Nat.zero_le _) (g := (mkF m 72 #[.val (.int p1), .val (.int p2), .val (.int p3), .val (.int p4), .val (.int (Int32.ofNat n)), .val (.ref ar), .unset] [(.ref h1.size), (.ref h1.size)])) rfl (hb hby at_72) (n := 4) (by decide) (by decide) (by decide) (by decide)
  obtain ⟨su, T4, h4, k4, X4, e4, E4, S4, hk4, hZ4, hown4, st4⟩ := ldcS (s := s) (vm0 := T3.vm) X3 hx hZ3 (own := "com/example/graphweave/graphweave/ArgumentsHasNextPinLaw") hown3 (hw _ (List.mem_of_getElem? (i := 13) rfl)) (own_atoms hw) e3 S3 hk3 (g := (mkF m 74 #[.val (.int p1), .val (.int p2), .val (.int p3), .val (.int p4), .val (.int (Int32.ofNat n)), .val (.ref ar), .unset] [(.ref sc), (.ref h1.size), (.ref h1.size)])) rfl (hb hby at_74) (n := 4) (by decide) (by decide) (by decide) (by decide)
  have EE : Ext h1 h4 := ⟨Nat.le_trans E2.1 (Nat.le_trans E3.1 E4.1), fun a c q => E4.2 _ _ (E3.2 _ _ (E2.2 _ _ q))⟩
  have E24 : Ext h2 h4 := ⟨Nat.le_trans E3.1 E4.1, fun a c q => E4.2 _ _ (E3.2 _ _ q)⟩
  have OL4 := OL1.ext EE
  have ga : n0 ≤ h1.size := own_old OL1
  have nea : ar ≠ h1.size := Nat.ne_of_lt V1.lt
  have neS : ∀ j, j < n → S j ≠ h1.size := fun j hj => Nat.ne_of_lt (ES1 j hj).lt
  obtain ⟨_, _, ⟨T5, L5, k5, n5⟩, -, X5, ⟨Lc5, hQ5, l5, y5, z5⟩, st5⟩ := X4.specialBack hx (y := (⟨"com/example/graphweave/graphweave/Arguments", "<init>", "(Ljava/lang/String;Ljava/lang/String;[Ljava/lang/String;)V"⟩ : MethodName)) rfl hown4 (mvT hZ4 (hw _ (List.mem_of_getElem? (i := 14) rfl))) (mvT hZ4 (hw _ (List.mem_of_getElem? (i := 15) rfl))) (mvT hZ4 (hw _ (List.mem_of_getElem? (i := 16) rfl))) (by decide) (backOf (W := 1) (rm1 l Z a0 hw [] h1.size sc su ar n S _ _ _ h4 n0 (own_old OL4) ga (A2.ext E24) (Fc2.ext E24) (Fu2.ext E24) (Fa2.ext E24) (Fn2.ext E24) (V1.ext EE) (EA1.ext EE) nea hn) hZ4 (hw _ (List.mem_of_getElem? (i := 16) rfl)) (hw _ (List.mem_of_getElem? (i := 4) rfl)) (by decide) (by decide)) (g := (mkF m 78 #[.val (.int p1), .val (.int p2), .val (.int p3), .val (.int p4), .val (.int (Int32.ofNat n)), .val (.ref ar), .unset] [(.ref ar), (.ref su), (.ref sc), (.ref h1.size), (.ref h1.size)])) rfl (by rw [hml]; rfl) (Steps.refl _) (a := h1.size) (argsL := [(.ref sc), (.ref su), (.ref ar)]) (rest := [(.ref h1.size)]) (lenOf pd_7 rfl) rfl (by show 2 * 0 + _ ≤ _; exact Nat.le_of_eq rfl) (hb hby at_78) (fun _ _ => ⟨rfl, e4, (by decide : 12 + 1 ≤ _), (by decide : 38 + 3 ≤ _)⟩)
  dsimp only [Pt.U, Pt.locs, Pt.cells, Pt.slots] at X5 l5 y5 z5 st5 hQ5
  subst l5 y5 z5
  obtain ⟨rfl, N5q, K5, Ea5, Fn5, ba, nba, Fa5, Vb5⟩ := hQ5
  have N5 := Fr.app N1 N5q
  have e5 : T5.heap = T5.heap := rfl
  have I5 : Inv Z h1.size ar ba n (min 0 n) S n0 T5.heap := ⟨Ea5, by rw [Nat.zero_min]; exact Fn5, Fa5, Vb5, (V1.ext EE).keep K5 (ninS nea nin0), fun j hj => ((ES1 j hj).ext EE).keep K5, Nat.le_trans (own_old OL4) K5.1⟩
  have hk5 : k4 ≤ T5.heap.size := Nat.le_trans hk4 K5.1
  obtain ⟨_, _, ⟨T6, L6, k6, n6⟩, -, X6, ⟨Lc6, hQ6, l6, y6, z6⟩, st6⟩ := Jvm.LawKit.callS X5 hx (y := (⟨"com/example/graphweave/graphweave/ArgumentsHasNextPinLaw", "step", "(Lcom/example/graphweave/graphweave/Arguments;[Ljava/lang/String;II)Z"⟩ : MethodName)) hown4 (mvT hZ4 (hw _ (List.mem_of_getElem? (i := 35) rfl))) (mvT hZ4 (hw _ (List.mem_of_getElem? (i := 36) rfl))) (mvT hZ4 (hw _ (List.mem_of_getElem? (i := 37) rfl))) (mvT hZ4 (hw _ (List.mem_of_getElem? (i := 38) rfl))) (by decide) (backOf (W := 0) (rm3 l Z a0 hw [] h1.size ar ba 0 n S T5.heap n0 I5 nba nea neS ga hn (by decide)) hZ4 (hw _ (List.mem_of_getElem? (i := 38) rfl)) (hw _ (List.mem_of_getElem? (i := 37) rfl)) (by decide) (by decide)) (g := (mkF m 90 #[.val (.int p1), .val (.int p2), .val (.int p3), .val (.int p4), .val (.int (Int32.ofNat n)), .val (.ref ar), .val (.ref h1.size)] [(.int (Int32.ofNat n)), (.int (0 : Int32)), (.ref ar), (.ref h1.size)])) rfl (by rw [hml]; rfl) (argsL := [(.ref h1.size), (.ref ar), (.int (0 : Int32)), (.int (Int32.ofNat n))]) (rest := []) (lenOf pd_8 rfl) rfl (by show 2 * 0 + _ ≤ _; exact Nat.le_of_eq rfl) (hb hby at_90) (fun _ _ => ⟨rfl, e5, (by decide : 13 + 0 ≤ _), (by decide : 41 + 0 ≤ _)⟩)
  dsimp only [Pt.U, Pt.locs, Pt.cells, Pt.slots] at X6 l6 y6 z6 st6 hQ6
  subst l6 y6 z6
  obtain ⟨rfl, N6q, G6, I6⟩ := hQ6
  have N6 := Fr.app N5 N6q
  have e6 : T6.heap = T6.heap := rfl
  have hk6 : k4 ≤ T6.heap.size := Nat.le_trans hk5 G6
  obtain ⟨_, _, ⟨T7, L7, k7, n7⟩, -, X7, ⟨Lc7, hQ7, l7, y7, z7⟩, st7⟩ := Jvm.LawKit.callS X6 hx (y := (⟨"com/example/graphweave/graphweave/ArgumentsHasNextPinLaw", "step", "(Lcom/example/graphweave/graphweave/Arguments;[Ljava/lang/String;II)Z"⟩ : MethodName)) hown4 (mvT hZ4 (hw _ (List.mem_of_getElem? (i := 35) rfl))) (mvT hZ4 (hw _ (List.mem_of_getElem? (i := 36) rfl))) (mvT hZ4 (hw _ (List.mem_of_getElem? (i := 37) rfl))) (mvT hZ4 (hw _ (List.mem_of_getElem? (i := 38) rfl))) (by decide) (backOf (W := 0) (rm3 l Z a0 hw [] h1.size ar ba 1 n S T6.heap n0 I6 nba nea neS ga hn (by decide)) hZ4 (hw _ (List.mem_of_getElem? (i := 38) rfl)) (hw _ (List.mem_of_getElem? (i := 37) rfl)) (by decide) (by decide)) (g := (mkF m 103 #[.val (.int p1), .val (.int p2), .val (.int p3), .val (.int p4), .val (.int (Int32.ofNat n)), .val (.ref ar), .val (.ref h1.size)] [(.int (Int32.ofNat n)), (.int (1 : Int32)), (.ref ar), (.ref h1.size)])) rfl (by rw [hml]; rfl) (argsL := [(.ref h1.size), (.ref ar), (.int (1 : Int32)), (.int (Int32.ofNat n))]) (rest := []) (lenOf pd_8 rfl) rfl (by show 2 * 0 + _ ≤ _; exact Nat.le_of_eq rfl) (hb hby at_103) (fun _ _ => ⟨rfl, e6, (by decide : 13 + 0 ≤ _), (by decide : 41 + 0 ≤ _)⟩)
  dsimp only [Pt.U, Pt.locs, Pt.cells, Pt.slots] at X7 l7 y7 z7 st7 hQ7
  subst l7 y7 z7
  obtain ⟨rfl, N7q, G7, I7⟩ := hQ7
  have N7 := Fr.app N6 N7q
  have e7 : T7.heap = T7.heap := rfl
  have hk7 : k4 ≤ T7.heap.size := Nat.le_trans hk6 G7
  obtain ⟨_, _, ⟨T8, L8, k8, n8⟩, -, X8, ⟨Lc8, hQ8, l8, y8, z8⟩, st8⟩ := Jvm.LawKit.callS X7 hx (y := (⟨"com/example/graphweave/graphweave/ArgumentsHasNextPinLaw", "step", "(Lcom/example/graphweave/graphweave/Arguments;[Ljava/lang/String;II)Z"⟩ : MethodName)) hown4 (mvT hZ4 (hw _ (List.mem_of_getElem? (i := 35) rfl))) (mvT hZ4 (hw _ (List.mem_of_getElem? (i := 36) rfl))) (mvT hZ4 (hw _ (List.mem_of_getElem? (i := 37) rfl))) (mvT hZ4 (hw _ (List.mem_of_getElem? (i := 38) rfl))) (by decide) (backOf (W := 0) (rm3 l Z a0 hw [] h1.size ar ba 2 n S T7.heap n0 I7 nba nea neS ga hn (by decide)) hZ4 (hw _ (List.mem_of_getElem? (i := 38) rfl)) (hw _ (List.mem_of_getElem? (i := 37) rfl)) (by decide) (by decide)) (g := (mkF m 116 #[.val (.int p1), .val (.int p2), .val (.int p3), .val (.int p4), .val (.int (Int32.ofNat n)), .val (.ref ar), .val (.ref h1.size)] [(.int (Int32.ofNat n)), (.int (2 : Int32)), (.ref ar), (.ref h1.size)])) rfl (by rw [hml]; rfl) (argsL := [(.ref h1.size), (.ref ar), (.int (2 : Int32)), (.int (Int32.ofNat n))]) (rest := []) (lenOf pd_8 rfl) rfl (by show 2 * 0 + _ ≤ _; exact Nat.le_of_eq rfl) (hb hby at_116) (fun _ _ => ⟨rfl, e7, (by decide : 13 + 0 ≤ _), (by decide : 41 + 0 ≤ _)⟩)
  dsimp only [Pt.U, Pt.locs, Pt.cells, Pt.slots] at X8 l8 y8 z8 st8 hQ8
  subst l8 y8 z8
  obtain ⟨rfl, N8q, G8, I8⟩ := hQ8
  have N8 := Fr.app N7 N8q
  have e8 : T8.heap = T8.heap := rfl
  have hk8 : k4 ≤ T8.heap.size := Nat.le_trans hk7 G8
  obtain ⟨_, _, ⟨T9, L9, k9, n9⟩, -, X9, ⟨Lc9, hQ9, l9, y9, z9⟩, st9⟩ := Jvm.LawKit.callS X8 hx (y := (⟨"com/example/graphweave/graphweave/ArgumentsHasNextPinLaw", "step", "(Lcom/example/graphweave/graphweave/Arguments;[Ljava/lang/String;II)Z"⟩ : MethodName)) hown4 (mvT hZ4 (hw _ (List.mem_of_getElem? (i := 35) rfl))) (mvT hZ4 (hw _ (List.mem_of_getElem? (i := 36) rfl))) (mvT hZ4 (hw _ (List.mem_of_getElem? (i := 37) rfl))) (mvT hZ4 (hw _ (List.mem_of_getElem? (i := 38) rfl))) (by decide) (backOf (W := 0) (rm3 l Z a0 hw [] h1.size ar ba 3 n S T8.heap n0 I8 nba nea neS ga hn (by decide)) hZ4 (hw _ (List.mem_of_getElem? (i := 38) rfl)) (hw _ (List.mem_of_getElem? (i := 37) rfl)) (by decide) (by decide)) (g := (mkF m 129 #[.val (.int p1), .val (.int p2), .val (.int p3), .val (.int p4), .val (.int (Int32.ofNat n)), .val (.ref ar), .val (.ref h1.size)] [(.int (Int32.ofNat n)), (.int (3 : Int32)), (.ref ar), (.ref h1.size)])) rfl (by rw [hml]; rfl) (argsL := [(.ref h1.size), (.ref ar), (.int (3 : Int32)), (.int (Int32.ofNat n))]) (rest := []) (lenOf pd_8 rfl) rfl (by show 2 * 0 + _ ≤ _; exact Nat.le_of_eq rfl) (hb hby at_129) (fun _ _ => ⟨rfl, e8, (by decide : 13 + 0 ≤ _), (by decide : 41 + 0 ≤ _)⟩)
  dsimp only [Pt.U, Pt.locs, Pt.cells, Pt.slots] at X9 l9 y9 z9 st9 hQ9
  subst l9 y9 z9
  obtain ⟨rfl, N9q, G9, I9⟩ := hQ9
  have N9 := Fr.app N8 N9q
  have e9 : T9.heap = T9.heap := rfl
  have hk9 : k4 ≤ T9.heap.size := Nat.le_trans hk8 G9
  obtain ⟨fs, hr, hrun, hended, d1, d2, d3, d4⟩ := X9.leaveW S4 hk9 (v := some (.int (1 : Int32))) (fun h => by rw [Bd.returns] at h; cases h)
  refine ⟨_, _, pre0 _ ?_, hrun, hended, _, _, rfl, ?_, d1, d2, d3, d4.mono (by decide) (by decide)⟩
  · refine sg0 p1 p2 p3 p4 X0 hx hZ hw hby hown e0 ?_
    rw [en]
    refine st1 _ ?_
    show Steps p.tables e below (T1.setTop (mkF m 68 #[.val (.int p1), .val (.int p2), .val (.int p3), .val (.int p4), .val (.int (Int32.ofNat n)), .val (.ref ar), .unset] [])) _
    refine st2 _ ?_
    show Steps p.tables e below (T2.setTop (mkF m 71 #[.val (.int p1), .val (.int p2), .val (.int p3), .val (.int p4), .val (.int (Int32.ofNat n)), .val (.ref ar), .unset] [(.ref h1.size)])) _
    refine XS.dup X2.here hx rfl (hb hby at_71) rfl rfl ?_
    show Steps p.tables e below (T2.setTop (mkF m 72 #[.val (.int p1), .val (.int p2), .val (.int p3), .val (.int p4), .val (.int (Int32.ofNat n)), .val (.ref ar), .unset] [(.ref h1.size), (.ref h1.size)])) _
    refine st3 _ ?_
    show Steps p.tables e below (T3.setTop (mkF m 74 #[.val (.int p1), .val (.int p2), .val (.int p3), .val (.int p4), .val (.int (Int32.ofNat n)), .val (.ref ar), .unset] [(.ref sc), (.ref h1.size), (.ref h1.size)])) _
    refine st4 _ ?_
    show Steps p.tables e below (T4.setTop (mkF m 76 #[.val (.int p1), .val (.int p2), .val (.int p3), .val (.int p4), .val (.int (Int32.ofNat n)), .val (.ref ar), .unset] [(.ref su), (.ref sc), (.ref h1.size), (.ref h1.size)])) _
    refine XS.aload X4.here hx rfl (hb hby at_76) rfl rfl ?_
    show Steps p.tables e below (T4.setTop (mkF m 78 #[.val (.int p1), .val (.int p2), .val (.int p3), .val (.int p4), .val (.int (Int32.ofNat n)), .val (.ref ar), .unset] [(.ref ar), (.ref su), (.ref sc), (.ref h1.size), (.ref h1.size)])) _
    refine st5.trans ?_
    show Steps p.tables e below (T5.setTop (mkF m 81 #[.val (.int p1), .val (.int p2), .val (.int p3), .val (.int p4), .val (.int (Int32.ofNat n)), .val (.ref ar), .unset] [(.ref h1.size)])) _
    refine XS.astore X5.here hx rfl (hb hby at_81) rfl rfl (l' := #[.val (.int p1), .val (.int p2), .val (.int p3), .val (.int p4), .val (.int (Int32.ofNat n)), .val (.ref ar), .val (.ref h1.size)]) rfl ?_
    show Steps p.tables e below (T5.setTop (mkF m 83 #[.val (.int p1), .val (.int p2), .val (.int p3), .val (.int p4), .val (.int (Int32.ofNat n)), .val (.ref ar), .val (.ref h1.size)] [])) _
    refine XS.aload X5.here hx rfl (hb hby at_83) rfl rfl ?_
    show Steps p.tables e below (T5.setTop (mkF m 85 #[.val (.int p1), .val (.int p2), .val (.int p3), .val (.int p4), .val (.int (Int32.ofNat n)), .val (.ref ar), .val (.ref h1.size)] [(.ref h1.size)])) _
    refine XS.aload X5.here hx rfl (hb hby at_85) rfl rfl ?_
    show Steps p.tables e below (T5.setTop (mkF m 87 #[.val (.int p1), .val (.int p2), .val (.int p3), .val (.int p4), .val (.int (Int32.ofNat n)), .val (.ref ar), .val (.ref h1.size)] [(.ref ar), (.ref h1.size)])) _
    refine XS.iconst X5.here hx rfl (hb hby at_87) ?_
    show Steps p.tables e below (T5.setTop (mkF m 88 #[.val (.int p1), .val (.int p2), .val (.int p3), .val (.int p4), .val (.int (Int32.ofNat n)), .val (.ref ar), .val (.ref h1.size)] [(.int (0 : Int32)), (.ref ar), (.ref h1.size)])) _
    refine XS.iload X5.here hx rfl (hb hby at_88) rfl ?_
    show Steps p.tables e below (T5.setTop (mkF m 90 #[.val (.int p1), .val (.int p2), .val (.int p3), .val (.int p4), .val (.int (Int32.ofNat n)), .val (.ref ar), .val (.ref h1.size)] [(.int (Int32.ofNat n)), (.int (0 : Int32)), (.ref ar), (.ref h1.size)])) _
    refine st6 _ ?_
    show Steps p.tables e below (T6.setTop (mkF m 93 #[.val (.int p1), .val (.int p2), .val (.int p3), .val (.int p4), .val (.int (Int32.ofNat n)), .val (.ref ar), .val (.ref h1.size)] [(.int (1 : Int32))])) _
    refine XS.ifNo X6.here hx rfl (hb hby at_93) rfl ((if0 _ _).trans (feq (by decide)).1) ?_
    show Steps p.tables e below (T6.setTop (mkF m 96 #[.val (.int p1), .val (.int p2), .val (.int p3), .val (.int p4), .val (.int (Int32.ofNat n)), .val (.ref ar), .val (.ref h1.size)] [])) _
    refine XS.aload X6.here hx rfl (hb hby at_96) rfl rfl ?_
    show Steps p.tables e below (T6.setTop (mkF m 98 #[.val (.int p1), .val (.int p2), .val (.int p3), .val (.int p4), .val (.int (Int32.ofNat n)), .val (.ref ar), .val (.ref h1.size)] [(.ref h1.size)])) _
    refine XS.aload X6.here hx rfl (hb hby at_98) rfl rfl ?_
    show Steps p.tables e below (T6.setTop (mkF m 100 #[.val (.int p1), .val (.int p2), .val (.int p3), .val (.int p4), .val (.int (Int32.ofNat n)), .val (.ref ar), .val (.ref h1.size)] [(.ref ar), (.ref h1.size)])) _
    refine XS.iconst X6.here hx rfl (hb hby at_100) ?_
    show Steps p.tables e below (T6.setTop (mkF m 101 #[.val (.int p1), .val (.int p2), .val (.int p3), .val (.int p4), .val (.int (Int32.ofNat n)), .val (.ref ar), .val (.ref h1.size)] [(.int (1 : Int32)), (.ref ar), (.ref h1.size)])) _
    refine XS.iload X6.here hx rfl (hb hby at_101) rfl ?_
    show Steps p.tables e below (T6.setTop (mkF m 103 #[.val (.int p1), .val (.int p2), .val (.int p3), .val (.int p4), .val (.int (Int32.ofNat n)), .val (.ref ar), .val (.ref h1.size)] [(.int (Int32.ofNat n)), (.int (1 : Int32)), (.ref ar), (.ref h1.size)])) _
    refine st7 _ ?_
    show Steps p.tables e below (T7.setTop (mkF m 106 #[.val (.int p1), .val (.int p2), .val (.int p3), .val (.int p4), .val (.int (Int32.ofNat n)), .val (.ref ar), .val (.ref h1.size)] [(.int (1 : Int32))])) _
    refine XS.ifNo X7.here hx rfl (hb hby at_106) rfl ((if0 _ _).trans (feq (by decide)).1) ?_
    show Steps p.tables e below (T7.setTop (mkF m 109 #[.val (.int p1), .val (.int p2), .val (.int p3), .val (.int p4), .val (.int (Int32.ofNat n)), .val (.ref ar), .val (.ref h1.size)] [])) _
    refine XS.aload X7.here hx rfl (hb hby at_109) rfl rfl ?_
    show Steps p.tables e below (T7.setTop (mkF m 111 #[.val (.int p1), .val (.int p2), .val (.int p3), .val (.int p4), .val (.int (Int32.ofNat n)), .val (.ref ar), .val (.ref h1.size)] [(.ref h1.size)])) _
    refine XS.aload X7.here hx rfl (hb hby at_111) rfl rfl ?_
    show Steps p.tables e below (T7.setTop (mkF m 113 #[.val (.int p1), .val (.int p2), .val (.int p3), .val (.int p4), .val (.int (Int32.ofNat n)), .val (.ref ar), .val (.ref h1.size)] [(.ref ar), (.ref h1.size)])) _
    refine XS.iconst X7.here hx rfl (hb hby at_113) ?_
    show Steps p.tables e below (T7.setTop (mkF m 114 #[.val (.int p1), .val (.int p2), .val (.int p3), .val (.int p4), .val (.int (Int32.ofNat n)), .val (.ref ar), .val (.ref h1.size)] [(.int (2 : Int32)), (.ref ar), (.ref h1.size)])) _
    refine XS.iload X7.here hx rfl (hb hby at_114) rfl ?_
    show Steps p.tables e below (T7.setTop (mkF m 116 #[.val (.int p1), .val (.int p2), .val (.int p3), .val (.int p4), .val (.int (Int32.ofNat n)), .val (.ref ar), .val (.ref h1.size)] [(.int (Int32.ofNat n)), (.int (2 : Int32)), (.ref ar), (.ref h1.size)])) _
    refine st8 _ ?_
    show Steps p.tables e below (T8.setTop (mkF m 119 #[.val (.int p1), .val (.int p2), .val (.int p3), .val (.int p4), .val (.int (Int32.ofNat n)), .val (.ref ar), .val (.ref h1.size)] [(.int (1 : Int32))])) _
    refine XS.ifNo X8.here hx rfl (hb hby at_119) rfl ((if0 _ _).trans (feq (by decide)).1) ?_
    show Steps p.tables e below (T8.setTop (mkF m 122 #[.val (.int p1), .val (.int p2), .val (.int p3), .val (.int p4), .val (.int (Int32.ofNat n)), .val (.ref ar), .val (.ref h1.size)] [])) _
    refine XS.aload X8.here hx rfl (hb hby at_122) rfl rfl ?_
    show Steps p.tables e below (T8.setTop (mkF m 124 #[.val (.int p1), .val (.int p2), .val (.int p3), .val (.int p4), .val (.int (Int32.ofNat n)), .val (.ref ar), .val (.ref h1.size)] [(.ref h1.size)])) _
    refine XS.aload X8.here hx rfl (hb hby at_124) rfl rfl ?_
    show Steps p.tables e below (T8.setTop (mkF m 126 #[.val (.int p1), .val (.int p2), .val (.int p3), .val (.int p4), .val (.int (Int32.ofNat n)), .val (.ref ar), .val (.ref h1.size)] [(.ref ar), (.ref h1.size)])) _
    refine XS.iconst X8.here hx rfl (hb hby at_126) ?_
    show Steps p.tables e below (T8.setTop (mkF m 127 #[.val (.int p1), .val (.int p2), .val (.int p3), .val (.int p4), .val (.int (Int32.ofNat n)), .val (.ref ar), .val (.ref h1.size)] [(.int (3 : Int32)), (.ref ar), (.ref h1.size)])) _
    refine XS.iload X8.here hx rfl (hb hby at_127) rfl ?_
    show Steps p.tables e below (T8.setTop (mkF m 129 #[.val (.int p1), .val (.int p2), .val (.int p3), .val (.int p4), .val (.int (Int32.ofNat n)), .val (.ref ar), .val (.ref h1.size)] [(.int (Int32.ofNat n)), (.int (3 : Int32)), (.ref ar), (.ref h1.size)])) _
    refine st9 _ ?_
    show Steps p.tables e below (T9.setTop (mkF m 132 #[.val (.int p1), .val (.int p2), .val (.int p3), .val (.int p4), .val (.int (Int32.ofNat n)), .val (.ref ar), .val (.ref h1.size)] [(.int (1 : Int32))])) _
    refine XS.ifNo X9.here hx rfl (hb hby at_132) rfl ((if0 _ _).trans (feq (by decide)).1) ?_
    show Steps p.tables e below (T9.setTop (mkF m 135 #[.val (.int p1), .val (.int p2), .val (.int p3), .val (.int p4), .val (.int (Int32.ofNat n)), .val (.ref ar), .val (.ref h1.size)] [])) _
    refine XS.iconst X9.here hx rfl (hb hby at_135) ?_
    show Steps p.tables e below (T9.setTop (mkF m 136 #[.val (.int p1), .val (.int p2), .val (.int p3), .val (.int p4), .val (.int (Int32.ofNat n)), .val (.ref ar), .val (.ref h1.size)] [(.int (1 : Int32))])) _
    refine XS.goto X9.here hx rfl (pc0 := 136) (pc' := 140) rfl (hb hby at_136) (by decide) (by decide) ?_
    show Steps p.tables e below (T9.setTop (mkF m 140 #[.val (.int p1), .val (.int p2), .val (.int p3), .val (.int p4), .val (.int (Int32.ofNat n)), .val (.ref ar), .val (.ref h1.size)] [(.int (1 : Int32))])) _
    exact retN X9 hx (t := .boolean) Bd.returns (by simp) (hb hby at_140) hr
  · exact ⟨rfl, N9⟩
set_option maxRecDepth 65536 in
set_option maxHeartbeats 40000000 in
theorem comes_1 {Post : Tables → Env → Array Value → State → Outcome → State → Prop} (hpost : ∀ tb e args s v u, (limb_1_1.after args s (.returned v) u = true ∧ limb_1_2.after args s (.returned v) u = true ∧ True) → FramedW s (.returned v) u (Jvm.fieldLocs frame_1_writes args s ++ Jvm.arrayLocs frame_1_arrays args s ++ Jvm.staticLocs frame_1_statics s) 32 2176 → Post tb e args s (.returned v) u) :
    ArmFor flags0 classFile x code maxLocals ret World_1 tables_1 room_1 Calls_1 rest_1 Pre_1 Post := by
  intro l hfl _ _ p e ha hc hk s m args below hf hA hF happ hP
  obtain ⟨hcalls, hrest, hpre⟩ := hP
  obtain ⟨-, -, -, hnamed, -, -, -, hat⟩ := (Spec.applies_iff hf).mp happ
  obtain ⟨hg, hn⟩ := and_e (Cond.before_iff.mp (show (Jvm.Cond.and given_1 narrow_1).before args s = true from hpre))
  obtain ⟨g1, g2⟩ := and_e hg
  obtain ⟨k0, g3⟩ := and_e g2
  obtain ⟨k1, g4⟩ := and_e g3
  obtain ⟨k2, k3⟩ := and_e g4
  obtain ⟨w0, w1, w2, w3, rfl⟩ : ∃ w0 w1 w2 w3 : Value, args = #[w0, w1, w2, w3] := by
    have hs : args.size = 4 := by simpa [Cond.value, given_1] using g1
    obtain ⟨L⟩ := args
    match L, hs with
    | [w0, w1, w2, w3], _ => exact ⟨w0, w1, w2, w3, rfl⟩
  have hw := fun d (hd : d ∈ tables_1) => atoms_spec (ws := Jvm.Cond.code x code maxLocals ret :: tables_1) hat d (List.mem_cons_of_mem _ hd)
  obtain ⟨hsets, hown0⟩ := atoms_of _ (rest_1_c_eq ▸ (show rest_1_c.before _ s = true from hrest))
  have n3 := not_v (Cond.before_iff.mp (hsets _ (List.mem_of_getElem? (i := 2) rfl)))
  obtain ⟨i7, e6⟩ := is_v (Cond.before_iff.mp (hsets _ (List.mem_of_getElem? (i := 1) rfl)))
  have S8 : Sta s s.heap "java/lang/String" "COMPACT_STRINGS" "Z" (.int i7) := Sta.start e6 (Or.inl (hsets _ (List.mem_of_getElem? (i := 0) rfl)))
  have c9 : ¬ (i7 = (0 : Int32)) := gotF (Cond.eq_ints e6 (Term.int_eval (0))) n3
  obtain ⟨i0, ei0⟩ := is_v k0
  obtain rfl : w0 = (.int i0) := Option.some.inj ei0
  obtain ⟨i1, ei1⟩ := is_v k1
  obtain rfl : w1 = (.int i1) := Option.some.inj ei1
  obtain ⟨i2, ei2⟩ := is_v k2
  obtain rfl : w2 = (.int i2) := Option.some.inj ei2
  obtain ⟨i3, ei3⟩ := is_v k3
  obtain rfl : w3 = (.int i3) := Option.some.inj ei3
  obtain ⟨n, o, h1, h2, h3, _, L, rfl, ⟨rfl, N⟩, hq⟩ := rm0 l s _ hw tables_1 i0 i1 i2 i3 i7 s.heap s.heap.size (Old.start s) S8 c9 p e ha hc hk s m _ below hf ((Spec.applies_iff_loose hf).mp happ).1 ⟨rfl, State.Warmed39.refl s, rfl⟩ trivial
  refine ⟨n, _, h1, h2, h3, hpost _ _ _ _ _ _ ⟨Cond.after_iff.mpr rfl, Cond.after_iff.mpr (eq_i res_at (Term.int_eval (1)) rfl), trivial⟩ ⟨hq.1, hq.2.1, hq.2.2.1, (hq.2.2.2.sift fun y hy => Or.inr (N y hy)).mono (by decide) (by decide)⟩⟩
theorem main_1_1 : Claimed_1_1 := comes_1 fun _ _ _ _ _ _ h hF => ⟨h.1, hF⟩
theorem main_1_2 : Claimed_1_2 := comes_1 fun _ _ _ _ _ _ h hF => ⟨h.2.1, hF⟩
end Jvm.Pilot.@@N@@
namespace Jvm.Pilot.@@N@@
open Jvm Jvm.ClassFile Sem Op Lib Jvm.Free Jvm.Stand Jvm.Pilot.@@N@@.Jvm.D
/-! MADE BY PROGRAM (witnessworld.py) out of the Statement's table words and the real class files: 18 classes; the members and pool entries that the words name. The judged class is class 1, her method 2. -/
namespace start1
open Jvm.ClassFile
def u (s : String) : CpInfo := .utf8 (stringToUtf16 s)
/-- a pool by its gaps: so many unusable entries, then the entry; so many at the end -/
def gap : Nat → List CpInfo → List CpInfo
  | 0, r => r
  | n + 1, r => .unusable :: gap n r
def poolList (es : List (Nat × CpInfo)) (last : Nat) : List CpInfo := es.foldr (fun e r => gap e.1 (e.2 :: r)) (gap last [])
def pool (es : List (Nat × CpInfo)) (last : Nat) : Array CpInfo := ⟨poolList es last⟩
def fileOf (pool : Array CpInfo) (this : Nat) (attrs : Array Attribute := #[]) (ms : Array MethodInfo := #[]) (fl : Nat := 33) (sup : Nat := 0) (ifs : Array Nat := #[]) (fds : Array FieldInfo := #[]) : ClassFile where
  minorVersion := 0
  majorVersion := 65
  constantPool := pool
  accessFlags := fl
  thisClass := this
  superClass := sup
  interfaces := ifs
  fields := fds
  methods := ms
  attributes := attrs
def plain (name : String) (sup : Option ClassId) : Class where
  name := name
  kind := .ordinary
  loader := none
  accessFlags := 33
  super := sup
  interfaces := #[]
  cf := none
  fields := #[]
  methods := #[]
  instanceTypes := #[]
  staticTypes := #[]
  resolved := #[]
  callSites := []
  init := .initialized
  statics := none
  mirror := none

def pool0 : Array CpInfo := pool [(5, u "<init>"), (0, u "()V"), (1, .class_ 10), (1, u "java/lang/Object"), (85, u "clone"), (0, u "()Ljava/lang/Object;")] 26

def k0c0 : Code := { maxStack := 0, maxLocals := 1, code := object_method_1_code, exceptionTable := #[], attributes := #[] }
def k0m0 : Method := { name := "<init>", desc := "()V", sig := { parameters := [], returnType := none }, accessFlags := 1, code := some k0c0 }
def k0m1 : Method := { name := "clone", desc := "()Ljava/lang/Object;", sig := { parameters := [], returnType := some (.object "java/lang/Object") }, accessFlags := 260, code := none }
/-- java/lang/Object -/
def k0 : Class := { plain "java/lang/Object" none with
  accessFlags := 33
  interfaces := #[]
  cf := some (fileOf pool0 8 #[] #[{ accessFlags := 1, nameIndex := 5, descriptorIndex := 6, attributes := #[] }, { accessFlags := 260, nameIndex := 96, descriptorIndex := 97, attributes := #[] }] 33 0 #[] #[])
  fields := #[]
  methods := #[k0m0, k0m1]
  instanceTypes := #[]
  staticTypes := #[]
  resolved := Array.replicate 124 none
  statics := none }

def pool1 : Array CpInfo := pool [(2, .class_ 4), (1, u "java/lang/Object"), (0, u "<init>"), (0, u "()V"), (0, .methodref 8 9), (0, .class_ 10), (0, .nameAndType 11 12), (0, u "com/example/graphweave/graphweave/Arguments"), (0, u "hasNext"), (0, u "()Z"), (0, .methodref 8 14), (0, .nameAndType 15 16), (0, u "next"), (0, u "()Ljava/lang/String;"), (0, .methodref 18 19), (0, .class_ 20), (0, .nameAndType 21 22), (0, u "java/lang/String"), (0, u "equals"), (0, u "(Ljava/lang/Object;)Z"), (0, .methodref 18 24), (0, .nameAndType 25 26), (0, u "valueOf"), (0, u "(C)Ljava/lang/String;"), (0, .string 28), (0, u "c"), (0, .string 30), (0, u "u"), (0, .methodref 8 32), (0, .nameAndType 5 33), (0, u "(Ljava/lang/String;Ljava/lang/String;[Ljava/lang/String;)V"), (0, .methodref 35 36), (0, .class_ 37), (0, .nameAndType 38 39), (0, u "com/example/graphweave/graphweave/ArgumentsHasNextPinLaw"), (0, u "step"), (0, u "(Lcom/example/graphweave/graphweave/Arguments;[Ljava/lang/String;II)Z"), (5, u "law"), (0, u "(IIII)Z")] 2

def k1m0 : Method := { name := "<init>", desc := "()V", sig := { parameters := [], returnType := none }, accessFlags := 2, code := none }
def k1c1 : Code := { maxStack := 3, maxLocals := 7, code := method_2_code, exceptionTable := #[], attributes := #[] }
def k1m1 : Method := { name := "step", desc := "(Lcom/example/graphweave/graphweave/Arguments;[Ljava/lang/String;II)Z", sig := { parameters := [(.object "com/example/graphweave/graphweave/Arguments"), (.array (.object "java/lang/String")), .int, .int], returnType := some .boolean }, accessFlags := 10, code := some k1c1 }
def k1c2 : Code := { maxStack := 5, maxLocals := 7, code := code, exceptionTable := #[], attributes := #[] }
def k1m2 : Method := { name := "law", desc := "(IIII)Z", sig := { parameters := [.int, .int, .int, .int], returnType := some .boolean }, accessFlags := 9, code := some k1c2 }
/-- com/example/graphweave/graphweave/ArgumentsHasNextPinLaw -/
def k1 : Class := { plain "com/example/graphweave/graphweave/ArgumentsHasNextPinLaw" (some 0) with
  accessFlags := 49
  interfaces := #[]
  cf := some (fileOf pool1 35 #[] #[{ accessFlags := 2, nameIndex := 5, descriptorIndex := 6, attributes := #[] }, { accessFlags := 10, nameIndex := 38, descriptorIndex := 39, attributes := #[] }, { accessFlags := 9, nameIndex := 45, descriptorIndex := 46, attributes := #[] }] 49 2 #[] #[])
  fields := #[]
  methods := #[k1m0, k1m1, k1m2]
  instanceTypes := #[]
  staticTypes := #[]
  resolved := Array.replicate 49 none
  statics := none }

def pool2 : Array CpInfo := pool [(1, .class_ 2), (0, u "java/io/Serializable"), (0, .class_ 4), (0, u "java/lang/Object")] 2

/-- java/io/Serializable -/
def k2 : Class := { plain "java/io/Serializable" (some 0) with
  accessFlags := 1537
  interfaces := #[]
  cf := some (fileOf pool2 1 #[] #[] 1537 3 #[] #[])
  fields := #[]
  methods := #[]
  instanceTypes := #[]
  staticTypes := #[]
  resolved := Array.replicate 7 none
  statics := none }

def pool3 : Array CpInfo := pool [(1, .class_ 2), (0, u "java/lang/Comparable"), (0, .class_ 4), (0, u "java/lang/Object")] 7

/-- java/lang/Comparable -/
def k3 : Class := { plain "java/lang/Comparable" (some 0) with
  accessFlags := 1537
  interfaces := #[]
  cf := some (fileOf pool3 1 #[] #[] 1537 3 #[] #[])
  fields := #[]
  methods := #[]
  instanceTypes := #[]
  staticTypes := #[]
  resolved := Array.replicate 12 none
  statics := none }

def pool4 : Array CpInfo := pool [(2, .class_ 4), (1, u "java/lang/CharSequence"), (42, .class_ 48), (0, u "java/lang/CharSequence$1CodePointIterator"), (10, .class_ 60), (0, u "java/lang/CharSequence$1CharIterator"), (5, .class_ 67), (0, u "java/lang/Object")] 63

/-- java/lang/CharSequence -/
def k4 : Class := { plain "java/lang/CharSequence" (some 0) with
  accessFlags := 1537
  interfaces := #[]
  cf := some (fileOf pool4 2 #[.nestMembers #[47, 59]] #[] 1537 66 #[] #[])
  fields := #[]
  methods := #[]
  instanceTypes := #[]
  staticTypes := #[]
  resolved := Array.replicate 131 none
  statics := none }

def pool5 : Array CpInfo := pool [(1, .class_ 2), (0, u "java/lang/constant/Constable"), (0, .class_ 4), (0, u "java/lang/Object")] 6

/-- java/lang/constant/Constable -/
def k5 : Class := { plain "java/lang/constant/Constable" (some 0) with
  accessFlags := 1537
  interfaces := #[]
  cf := some (fileOf pool5 1 #[] #[] 1537 3 #[] #[])
  fields := #[]
  methods := #[]
  instanceTypes := #[]
  staticTypes := #[]
  resolved := Array.replicate 11 none
  statics := none }

def pool6 : Array CpInfo := pool [(1, .class_ 2), (0, u "java/lang/constant/ConstantDesc"), (0, .class_ 4), (0, u "java/lang/Object")] 32

/-- java/lang/constant/ConstantDesc -/
def k6 : Class := { plain "java/lang/constant/ConstantDesc" (some 0) with
  accessFlags := 1537
  interfaces := #[]
  cf := some (fileOf pool6 1 #[] #[] 1537 3 #[] #[])
  fields := #[]
  methods := #[]
  instanceTypes := #[]
  staticTypes := #[]
  resolved := Array.replicate 37 none
  statics := none }

def pool7 : Array CpInfo := pool [(1, .methodref 2 3), (0, .class_ 4), (0, .nameAndType 5 6), (0, u "java/lang/Object"), (0, u "<init>"), (0, u "()V"), (2, .fieldref 10 11), (0, .class_ 12), (0, .nameAndType 13 14), (0, u "java/lang/String"), (0, u "value"), (0, u "[B"), (0, .fieldref 10 16), (0, .nameAndType 17 18), (0, u "coder"), (0, u "B"), (2, u "hash"), (0, u "I"), (2, u "hashIsZero"), (0, u "Z"), (11, .fieldref 10 39), (0, .nameAndType 40 26), (0, u "COMPACT_STRINGS"), (12, u "toBytes"), (53, .class_ 109), (1, u "java/lang/StringLatin1"), (99, .methodref 10 210), (0, .nameAndType 5 211), (0, u "([BB)V"), (157, u "(C)Z"), (173, u "equals"), (29, u "(Ljava/lang/Object;)Z"), (1, .class_ 576), (0, u "java/lang/CharSequence"), (22, u "CASE_INSENSITIVE_ORDER"), (0, u "Ljava/util/Comparator;"), (181, u "valueOf"), (0, u "(C)Ljava/lang/String;"), (231, .methodref 107 1016), (0, .nameAndType 1017 369), (0, u "canEncode"), (0, .methodref 107 1019), (0, .nameAndType 53 1020), (0, u "(C)[B"), (80, u "serialPersistentFields"), (0, u "[Ljava/io/ObjectStreamField;"), (0, .class_ 1104), (0, u "java/lang/String$CaseInsensitiveComparator"), (1, .class_ 1107), (0, u "java/io/Serializable"), (0, .class_ 1109), (0, u "java/lang/Comparable"), (0, .class_ 1111), (0, u "java/lang/constant/Constable"), (0, .class_ 1113), (0, u "java/lang/constant/ConstantDesc"), (2, u "serialVersionUID"), (0, u "J"), (3, u "REPL"), (0, u "C"), (2, u "LATIN1"), (1, u "UTF16")] 323

def k7m0 : Method := { name := "<init>", desc := "()V", sig := { parameters := [], returnType := none }, accessFlags := 1, code := none }
def k7c1 : Code := { maxStack := 2, maxLocals := 3, code := jdk_42_method_66_code, exceptionTable := #[], attributes := #[] }
def k7m1 : Method := { name := "equals", desc := "(Ljava/lang/Object;)Z", sig := { parameters := [(.object "java/lang/Object")], returnType := some .boolean }, accessFlags := 1, code := some k7c1 }
def k7c2 : Code := { maxStack := 4, maxLocals := 1, code := jdk_42_method_139_code, exceptionTable := #[], attributes := #[] }
def k7m2 : Method := { name := "valueOf", desc := "(C)Ljava/lang/String;", sig := { parameters := [.char], returnType := some (.object "java/lang/String") }, accessFlags := 9, code := some k7c2 }
def k7c3 : Code := { maxStack := 2, maxLocals := 3, code := jdk_42_method_151_code, exceptionTable := #[], attributes := #[] }
def k7m3 : Method := { name := "<init>", desc := "([BB)V", sig := { parameters := [(.array .byte), .byte], returnType := none }, accessFlags := 0, code := some k7c3 }
/-- java/lang/String -/
def k7 : Class := { plain "java/lang/String" (some 0) with
  accessFlags := 49
  interfaces := #[2, 3, 4, 5, 6]
  cf := some (fileOf pool7 10 #[.nestMembers #[1103]] #[{ accessFlags := 1, nameIndex := 5, descriptorIndex := 6, attributes := #[] }, { accessFlags := 1, nameIndex := 543, descriptorIndex := 573, attributes := #[] }, { accessFlags := 9, nameIndex := 782, descriptorIndex := 783, attributes := #[] }, { accessFlags := 0, nameIndex := 5, descriptorIndex := 211, attributes := #[] }] 49 2 #[1106, 1108, 575, 1110, 1112] #[{ accessFlags := 18, nameIndex := 13, descriptorIndex := 14, attributes := #[] }, { accessFlags := 18, nameIndex := 17, descriptorIndex := 18, attributes := #[] }, { accessFlags := 2, nameIndex := 21, descriptorIndex := 22, attributes := #[] }, { accessFlags := 2, nameIndex := 25, descriptorIndex := 26, attributes := #[] }, { accessFlags := 26, nameIndex := 1116, descriptorIndex := 1117, attributes := #[] }, { accessFlags := 24, nameIndex := 40, descriptorIndex := 26, attributes := #[] }, { accessFlags := 26, nameIndex := 1101, descriptorIndex := 1102, attributes := #[] }, { accessFlags := 26, nameIndex := 1121, descriptorIndex := 1122, attributes := #[] }, { accessFlags := 25, nameIndex := 599, descriptorIndex := 600, attributes := #[] }, { accessFlags := 24, nameIndex := 1125, descriptorIndex := 18, attributes := #[] }, { accessFlags := 24, nameIndex := 1127, descriptorIndex := 18, attributes := #[] }])
  fields := #[{ name := "value", type := (.array .byte), accessFlags := 18, slot := 0, constantValue := 0 }, { name := "coder", type := .byte, accessFlags := 18, slot := 1, constantValue := 0 }, { name := "hash", type := .int, accessFlags := 2, slot := 2, constantValue := 0 }, { name := "hashIsZero", type := .boolean, accessFlags := 2, slot := 3, constantValue := 0 }, { name := "serialVersionUID", type := .long, accessFlags := 26, slot := 0, constantValue := 0 }, { name := "COMPACT_STRINGS", type := .boolean, accessFlags := 24, slot := 1, constantValue := 0 }, { name := "serialPersistentFields", type := (.array (.object "java/io/ObjectStreamField")), accessFlags := 26, slot := 2, constantValue := 0 }, { name := "REPL", type := .char, accessFlags := 26, slot := 3, constantValue := 0 }, { name := "CASE_INSENSITIVE_ORDER", type := (.object "java/util/Comparator"), accessFlags := 25, slot := 4, constantValue := 0 }, { name := "LATIN1", type := .byte, accessFlags := 24, slot := 5, constantValue := 0 }, { name := "UTF16", type := .byte, accessFlags := 24, slot := 6, constantValue := 0 }]
  methods := #[k7m0, k7m1, k7m2, k7m3]
  instanceTypes := #[(.array .byte), .byte, .int, .boolean]
  staticTypes := #[.long, .boolean, (.array (.object "java/io/ObjectStreamField")), .char, (.object "java/util/Comparator"), .byte, .byte]
  resolved := Array.replicate 1451 none
  statics := some 0 }

def pool8 : Array CpInfo := pool [(1, .methodref 2 3), (0, .class_ 4), (0, .nameAndType 5 6), (0, u "java/lang/Object"), (0, u "<init>"), (0, u "()V"), (0, .fieldref 8 9), (0, .class_ 10), (0, .nameAndType 11 12), (0, u "com/example/graphweave/graphweave/Arguments"), (0, u "command"), (0, u "Ljava/lang/String;"), (0, .fieldref 8 14), (0, .nameAndType 15 12), (0, u "usage"), (0, .methodref 17 18), (0, .class_ 19), (0, .nameAndType 20 21), (0, u "[Ljava/lang/String;"), (0, u "clone"), (0, u "()Ljava/lang/Object;"), (0, .fieldref 8 23), (0, .nameAndType 24 19), (0, u "args"), (0, .fieldref 8 26), (0, .nameAndType 27 28), (0, u "next"), (0, u "I"), (18, u "()Ljava/lang/String;"), (47, u "(Ljava/lang/String;Ljava/lang/String;[Ljava/lang/String;)V"), (2, u "hasNext"), (0, u "()Z")] 36

def k8c0 : Code := { maxStack := 2, maxLocals := 4, code := prog_1_method_1_code, exceptionTable := #[], attributes := #[] }
def k8m0 : Method := { name := "<init>", desc := "(Ljava/lang/String;Ljava/lang/String;[Ljava/lang/String;)V", sig := { parameters := [(.object "java/lang/String"), (.object "java/lang/String"), (.array (.object "java/lang/String"))], returnType := none }, accessFlags := 0, code := some k8c0 }
def k8c1 : Code := { maxStack := 2, maxLocals := 1, code := prog_1_method_2_code, exceptionTable := #[], attributes := #[] }
def k8m1 : Method := { name := "hasNext", desc := "()Z", sig := { parameters := [], returnType := some .boolean }, accessFlags := 0, code := some k8c1 }
def k8c2 : Code := { maxStack := 5, maxLocals := 1, code := prog_1_method_3_code, exceptionTable := #[], attributes := #[] }
def k8m2 : Method := { name := "next", desc := "()Ljava/lang/String;", sig := { parameters := [], returnType := some (.object "java/lang/String") }, accessFlags := 0, code := some k8c2 }
/-- com/example/graphweave/graphweave/Arguments -/
def k8 : Class := { plain "com/example/graphweave/graphweave/Arguments" (some 0) with
  accessFlags := 48
  interfaces := #[]
  cf := some (fileOf pool8 8 #[] #[{ accessFlags := 0, nameIndex := 5, descriptorIndex := 95, attributes := #[] }, { accessFlags := 0, nameIndex := 98, descriptorIndex := 99, attributes := #[] }, { accessFlags := 0, nameIndex := 27, descriptorIndex := 47, attributes := #[] }] 48 2 #[] #[{ accessFlags := 18, nameIndex := 11, descriptorIndex := 12, attributes := #[] }, { accessFlags := 18, nameIndex := 15, descriptorIndex := 12, attributes := #[] }, { accessFlags := 18, nameIndex := 24, descriptorIndex := 19, attributes := #[] }, { accessFlags := 2, nameIndex := 27, descriptorIndex := 28, attributes := #[] }])
  fields := #[{ name := "command", type := (.object "java/lang/String"), accessFlags := 18, slot := 0, constantValue := 0 }, { name := "usage", type := (.object "java/lang/String"), accessFlags := 18, slot := 1, constantValue := 0 }, { name := "args", type := (.array (.object "java/lang/String")), accessFlags := 18, slot := 2, constantValue := 0 }, { name := "next", type := .int, accessFlags := 2, slot := 3, constantValue := 0 }]
  methods := #[k8m0, k8m1, k8m2]
  instanceTypes := #[(.object "java/lang/String"), (.object "java/lang/String"), (.array (.object "java/lang/String")), .int]
  staticTypes := #[]
  resolved := Array.replicate 136 none
  statics := none }

def pool9 : Array CpInfo := pool [(1, .class_ 2), (0, u "java/lang/Cloneable"), (0, .class_ 4), (0, u "java/lang/Object")] 2

/-- java/lang/Cloneable -/
def k9 : Class := { plain "java/lang/Cloneable" (some 0) with
  accessFlags := 1537
  interfaces := #[]
  cf := some (fileOf pool9 1 #[] #[] 1537 3 #[] #[])
  fields := #[]
  methods := #[]
  instanceTypes := #[]
  staticTypes := #[]
  resolved := Array.replicate 7 none
  statics := none }

def pool10 : Array CpInfo := pool [(4, .class_ 6), (1, u "java/lang/Object"), (0, u "<init>"), (0, u "()V"), (5, .class_ 16), (1, u "java/lang/StringLatin1"), (73, u "canEncode"), (14, u "(C)Z"), (15, u "$assertionsDisabled"), (0, u "Z"), (98, .class_ 223), (1, u "java/lang/StringLatin1$LinesSpliterator"), (156, u "toBytes"), (1, u "(C)[B"), (7, .class_ 391), (0, u "java/lang/StringLatin1$CharsSpliterator")] 3

def k10m0 : Method := { name := "<init>", desc := "()V", sig := { parameters := [], returnType := none }, accessFlags := 0, code := none }
def k10c1 : Code := { maxStack := 2, maxLocals := 1, code := jdk_43_method_3_code, exceptionTable := #[], attributes := #[] }
def k10m1 : Method := { name := "canEncode", desc := "(C)Z", sig := { parameters := [.char], returnType := some .boolean }, accessFlags := 9, code := some k10c1 }
def k10c2 : Code := { maxStack := 4, maxLocals := 1, code := jdk_43_method_46_code, exceptionTable := #[], attributes := #[] }
def k10m2 : Method := { name := "toBytes", desc := "(C)[B", sig := { parameters := [.char], returnType := some (.array .byte) }, accessFlags := 9, code := some k10c2 }
/-- java/lang/StringLatin1 -/
def k10 : Class := { plain "java/lang/StringLatin1" (some 0) with
  accessFlags := 48
  interfaces := #[]
  cf := some (fileOf pool10 14 #[.nestMembers #[390, 221]] #[{ accessFlags := 0, nameIndex := 7, descriptorIndex := 8, attributes := #[] }, { accessFlags := 9, nameIndex := 90, descriptorIndex := 105, attributes := #[] }, { accessFlags := 9, nameIndex := 380, descriptorIndex := 382, attributes := #[] }] 48 4 #[] #[{ accessFlags := 4120, nameIndex := 121, descriptorIndex := 122, attributes := #[] }])
  fields := #[{ name := "$assertionsDisabled", type := .boolean, accessFlags := 4120, slot := 0, constantValue := 0 }]
  methods := #[k10m0, k10m1, k10m2]
  instanceTypes := #[]
  staticTypes := #[.boolean]
  resolved := Array.replicate 395 none
  statics := none }

def pool11 : Array CpInfo := pool [(2, .class_ 4), (1, u "java/lang/Object"), (0, u "<init>"), (0, u "()V"), (17, .class_ 26), (1, u "jdk/internal/util/Preconditions"), (28, .class_ 56), (0, u "jdk/internal/util/Preconditions$4"), (57, .class_ 115), (0, u "jdk/internal/util/Preconditions$1"), (7, u "SIOOBE_FORMATTER"), (0, u "Ljava/util/function/BiFunction;"), (0, .class_ 126), (0, u "jdk/internal/util/Preconditions$2"), (3, u "AIOOBE_FORMATTER"), (0, .class_ 132), (0, u "jdk/internal/util/Preconditions$3"), (3, u "IOOBE_FORMATTER")] 57

def k11m0 : Method := { name := "<init>", desc := "()V", sig := { parameters := [], returnType := none }, accessFlags := 1, code := none }
/-- jdk/internal/util/Preconditions -/
def k11 : Class := { plain "jdk/internal/util/Preconditions" (some 0) with
  accessFlags := 33
  interfaces := #[]
  cf := some (fileOf pool11 24 #[.nestMembers #[55, 131, 125, 114]] #[{ accessFlags := 1, nameIndex := 5, descriptorIndex := 6, attributes := #[] }] 33 2 #[] #[{ accessFlags := 25, nameIndex := 123, descriptorIndex := 124, attributes := #[] }, { accessFlags := 25, nameIndex := 130, descriptorIndex := 124, attributes := #[] }, { accessFlags := 25, nameIndex := 136, descriptorIndex := 124, attributes := #[] }])
  fields := #[{ name := "SIOOBE_FORMATTER", type := (.object "java/util/function/BiFunction"), accessFlags := 25, slot := 0, constantValue := 0 }, { name := "AIOOBE_FORMATTER", type := (.object "java/util/function/BiFunction"), accessFlags := 25, slot := 1, constantValue := 0 }, { name := "IOOBE_FORMATTER", type := (.object "java/util/function/BiFunction"), accessFlags := 25, slot := 2, constantValue := 0 }]
  methods := #[k11m0]
  instanceTypes := #[]
  staticTypes := #[(.object "java/util/function/BiFunction"), (.object "java/util/function/BiFunction"), (.object "java/util/function/BiFunction")]
  resolved := Array.replicate 194 none
  statics := some 1 }

def pool12 : Array CpInfo := pool [(9, u "<init>"), (6, .class_ 18), (1, u "java/lang/Object"), (0, u "()V"), (1, .class_ 23), (1, u "jdk/internal/util/ArraysSupport"), (0, u "LOG2_ARRAY_LONG_INDEX_SCALE"), (0, u "I"), (2, u "U"), (0, u "Ljdk/internal/misc/Unsafe;"), (8, u "BIG_ENDIAN"), (0, u "Z"), (8, u "LOG2_BYTE_BIT_SIZE"), (4, u "LOG2_ARRAY_INT_INDEX_SCALE"), (54, u "JLA"), (0, u "Ljdk/internal/access/JavaLangAccess;"), (11, u "LOG2_ARRAY_BOOLEAN_INDEX_SCALE"), (9, u "LOG2_ARRAY_BYTE_INDEX_SCALE"), (5, u "LOG2_ARRAY_CHAR_INDEX_SCALE"), (5, u "LOG2_ARRAY_SHORT_INDEX_SCALE"), (18, u "LOG2_ARRAY_FLOAT_INDEX_SCALE"), (24, u "LOG2_ARRAY_DOUBLE_INDEX_SCALE"), (89, u "T_BOOLEAN"), (2, u "T_CHAR"), (1, u "T_FLOAT"), (1, u "T_DOUBLE"), (1, u "T_BYTE"), (1, u "T_SHORT"), (1, u "T_INT"), (1, u "T_LONG"), (1, u "SOFT_MAX_ARRAY_LENGTH")] 83

def k12m0 : Method := { name := "<init>", desc := "()V", sig := { parameters := [], returnType := none }, accessFlags := 2, code := none }
/-- jdk/internal/util/ArraysSupport -/
def k12 : Class := { plain "jdk/internal/util/ArraysSupport" (some 0) with
  accessFlags := 33
  interfaces := #[]
  cf := some (fileOf pool12 21 #[] #[{ accessFlags := 2, nameIndex := 9, descriptorIndex := 19, attributes := #[] }] 33 16 #[] #[{ accessFlags := 24, nameIndex := 28, descriptorIndex := 29, attributes := #[] }, { accessFlags := 26, nameIndex := 38, descriptorIndex := 39, attributes := #[] }, { accessFlags := 25, nameIndex := 121, descriptorIndex := 25, attributes := #[] }, { accessFlags := 25, nameIndex := 131, descriptorIndex := 25, attributes := #[] }, { accessFlags := 25, nameIndex := 137, descriptorIndex := 25, attributes := #[] }, { accessFlags := 25, nameIndex := 143, descriptorIndex := 25, attributes := #[] }, { accessFlags := 25, nameIndex := 53, descriptorIndex := 25, attributes := #[] }, { accessFlags := 25, nameIndex := 24, descriptorIndex := 25, attributes := #[] }, { accessFlags := 25, nameIndex := 162, descriptorIndex := 25, attributes := #[] }, { accessFlags := 25, nameIndex := 187, descriptorIndex := 25, attributes := #[] }, { accessFlags := 26, nameIndex := 48, descriptorIndex := 25, attributes := #[] }, { accessFlags := 25, nameIndex := 277, descriptorIndex := 25, attributes := #[] }, { accessFlags := 25, nameIndex := 280, descriptorIndex := 25, attributes := #[] }, { accessFlags := 25, nameIndex := 282, descriptorIndex := 25, attributes := #[] }, { accessFlags := 25, nameIndex := 284, descriptorIndex := 25, attributes := #[] }, { accessFlags := 25, nameIndex := 286, descriptorIndex := 25, attributes := #[] }, { accessFlags := 25, nameIndex := 288, descriptorIndex := 25, attributes := #[] }, { accessFlags := 25, nameIndex := 290, descriptorIndex := 25, attributes := #[] }, { accessFlags := 25, nameIndex := 292, descriptorIndex := 25, attributes := #[] }, { accessFlags := 26, nameIndex := 108, descriptorIndex := 109, attributes := #[] }, { accessFlags := 25, nameIndex := 294, descriptorIndex := 25, attributes := #[] }])
  fields := #[{ name := "U", type := (.object "jdk/internal/misc/Unsafe"), accessFlags := 24, slot := 0, constantValue := 0 }, { name := "BIG_ENDIAN", type := .boolean, accessFlags := 26, slot := 1, constantValue := 0 }, { name := "LOG2_ARRAY_BOOLEAN_INDEX_SCALE", type := .int, accessFlags := 25, slot := 2, constantValue := 0 }, { name := "LOG2_ARRAY_BYTE_INDEX_SCALE", type := .int, accessFlags := 25, slot := 3, constantValue := 0 }, { name := "LOG2_ARRAY_CHAR_INDEX_SCALE", type := .int, accessFlags := 25, slot := 4, constantValue := 0 }, { name := "LOG2_ARRAY_SHORT_INDEX_SCALE", type := .int, accessFlags := 25, slot := 5, constantValue := 0 }, { name := "LOG2_ARRAY_INT_INDEX_SCALE", type := .int, accessFlags := 25, slot := 6, constantValue := 0 }, { name := "LOG2_ARRAY_LONG_INDEX_SCALE", type := .int, accessFlags := 25, slot := 7, constantValue := 0 }, { name := "LOG2_ARRAY_FLOAT_INDEX_SCALE", type := .int, accessFlags := 25, slot := 8, constantValue := 0 }, { name := "LOG2_ARRAY_DOUBLE_INDEX_SCALE", type := .int, accessFlags := 25, slot := 9, constantValue := 0 }, { name := "LOG2_BYTE_BIT_SIZE", type := .int, accessFlags := 26, slot := 10, constantValue := 0 }, { name := "T_BOOLEAN", type := .int, accessFlags := 25, slot := 11, constantValue := 0 }, { name := "T_CHAR", type := .int, accessFlags := 25, slot := 12, constantValue := 0 }, { name := "T_FLOAT", type := .int, accessFlags := 25, slot := 13, constantValue := 0 }, { name := "T_DOUBLE", type := .int, accessFlags := 25, slot := 14, constantValue := 0 }, { name := "T_BYTE", type := .int, accessFlags := 25, slot := 15, constantValue := 0 }, { name := "T_SHORT", type := .int, accessFlags := 25, slot := 16, constantValue := 0 }, { name := "T_INT", type := .int, accessFlags := 25, slot := 17, constantValue := 0 }, { name := "T_LONG", type := .int, accessFlags := 25, slot := 18, constantValue := 0 }, { name := "JLA", type := (.object "jdk/internal/access/JavaLangAccess"), accessFlags := 26, slot := 19, constantValue := 0 }, { name := "SOFT_MAX_ARRAY_LENGTH", type := .int, accessFlags := 25, slot := 20, constantValue := 0 }]
  methods := #[k12m0]
  instanceTypes := #[]
  staticTypes := #[(.object "jdk/internal/misc/Unsafe"), .boolean, .int, .int, .int, .int, .int, .int, .int, .int, .int, .int, .int, .int, .int, .int, .int, .int, .int, (.object "jdk/internal/access/JavaLangAccess"), .int]
  resolved := Array.replicate 378 none
  statics := none }

/-- the primitive byte -/
def k13 : Class := { plain "byte" none with kind := .primitive 'B', accessFlags := 0x411 }
/-- [B -/
def k14 : Class := { plain "[B" (some 0) with kind := .array 13 .byte, interfaces := #[9, 2], accessFlags := 1041 }

/-- the primitive int -/
def k15 : Class := { plain "int" none with kind := .primitive 'I', accessFlags := 0x411 }
/-- [I -/
def k16 : Class := { plain "[I" (some 0) with kind := .array 15 .int, interfaces := #[9, 2], accessFlags := 1041 }

/-- [Ljava/lang/String; -/
def k17 : Class := { plain "[Ljava/lang/String;" (some 0) with kind := .array 7 (.object "java/lang/String"), interfaces := #[9, 2], accessFlags := 1041 }

def heap : Heap := #[{ cls := 7, slots := #[.long 0, .int 1, .null, .int 0, .null, .int 0, .int 0], vm := .statics 7 },
  { cls := 11, slots := #[.null, .null, .null], vm := .statics 11 }]
def classes : Array Class := #[k0, k1, k2, k3, k4, k5, k6, k7, k8, k9, k10, k11, k12, k13, k14, k15, k16, k17]
def interned : List (Array UInt16 × Addr) := []
def slotsUsed : Nat := 10
def theMethod : MethodId := ⟨1, 2⟩
def args0 : Array Value := #[.int 2, .int 65, .int 66, .int 67]
def aboutOver (below : List Frame) : State where
  vm := { classes := classes, interned := interned.toArray }
  heap := heap
  slotsUsed := slotsUsed
  threads := #[{ frames := .invoking theMethod args0 :: below }]
def below0 : List Frame := [.native { method := ⟨0, 0⟩, args := #[] }]
def about1 : State := aboutOver below0
def p0 : Program := .bare "" "" ""
def e0 : Env := launch0.env 0 0 0
theorem w_frames : about1.frames = Frame.invoking theMethod args0 :: below0 := rfl
set_option maxRecDepth 65536 in
theorem w_args : argsFit about1.vm theMethod args0 = true := by decide +kernel
set_option maxRecDepth 65536 in
theorem w_heap : heapFits about1 = true := by decide +kernel
set_option maxRecDepth 65536 in
theorem w_runnable : about1.curStatus? = some .runnable := by decide +kernel
set_option maxRecDepth 65536 in
theorem w_alone : about1.alone = true := by decide +kernel
set_option maxRecDepth 65536 in
theorem w_named : about1.methodNamed? x = some theMethod := by decide +kernel
set_option maxRecDepth 65536 in
theorem w_hears : about1.hears theMethod below0 = true := by decide +kernel
set_option maxRecDepth 65536 in
theorem w_ripe : about1.ripe theMethod args0 below0 = true := by decide +kernel
theorem w_running : about1.status = .running := rfl
set_option maxRecDepth 65536 in
theorem w_room : about1.hasRoom e0.platform room_1 = true :=
  launch0.hasRoom_least _ room_1 (by decide +kernel) (by decide +kernel) (by decide +kernel) (by decide +kernel) (by decide +kernel) (by decide +kernel)
theorem allAtoms_all (ts : List Jvm.Cond) (a : Array Jvm.Value) (st : Jvm.State) : (allAtoms ts).before a st = ts.all (fun c => c.before a st) := by
  induction ts with
  | nil => rfl
  | cons c t ih =>
    show (Jvm.Cond.and c (allAtoms t)).before a st = _
    rw [Jvm.Cond.before_and, ih, List.all_cons]
def words1 : List Jvm.Cond := Jvm.Cond.code x code maxLocals ret :: tables_1
/-- a 'code' word, met by the world's own term for the bytes: nothing is compared byte by byte -/
theorem code_word {y : MethodName} {bytes : ByteArray} {mx : Nat} {rt : Option FieldType} {a : Array Value} {s : State} {m : MethodId} {meth : Method} {c : Code} (h1 : s.methodNamed? y = some m) (h2 : s.vm.method? m = some meth) (h3 : meth.code = some c) (h4 : c.code = bytes)
    (h5 : (c.maxLocals == mx && c.exceptionTable.isEmpty && decide (c.maxStack ≤ mostOperands) && decide (meth.sig.returnType = rt) && !meth.locks && decide (parseMethodDescriptor y.desc = some meth.sig)) = true) : (Jvm.Cond.code y bytes mx rt).before a s = true := by
  simp only [Bool.and_eq_true, beq_iff_eq, Bool.not_eq_true', decide_eq_true_eq] at h5
  obtain ⟨⟨⟨⟨⟨g1, g2⟩, g3⟩, g4⟩, g5⟩, g6⟩ := h5
  simp [Cond.before, Cond.holds, Cond.value, h1, h2, h3, h4, g1, g2, g3, g4, g5, g6]
def isCode : Jvm.Cond → Bool
  | .code _ _ _ _ => true
  | _ => false
theorem all_split {L : List Jvm.Cond} {P : Jvm.Cond → Bool} (h1 : L.all (fun c => isCode c || P c) = true) (h2 : ∀ c ∈ L.filter isCode, P c = true) : L.all P = true := by
  refine List.all_eq_true.mpr fun c hc => ?_
  have h := List.all_eq_true.mp h1 c hc
  rcases Bool.eq_false_or_eq_true (isCode c) with hi | hi
  · exact h2 c (List.mem_filter.mpr ⟨hc, hi⟩)
  · simpa [hi] using h
set_option maxRecDepth 65536 in
theorem w_c0 : (Jvm.Cond.code x code maxLocals ret).before args0 about1 = true := code_word (m := ⟨1, 2⟩) (meth := k1m2) (c := k1c2) (by decide +kernel) rfl rfl rfl (by decide +kernel)
set_option maxRecDepth 65536 in
theorem w_c1 : (Jvm.Cond.code ({ cls := "com/example/graphweave/graphweave/Arguments", name := "<init>", desc := "(Ljava/lang/String;Ljava/lang/String;[Ljava/lang/String;)V" } : Jvm.MethodName) prog_1_method_1_code (4 : Nat) (Option.none : Option Jvm.ClassFile.FieldType)).before args0 about1 = true := code_word (m := ⟨8, 0⟩) (meth := k8m0) (c := k8c0) (by decide +kernel) rfl rfl rfl (by decide +kernel)
set_option maxRecDepth 65536 in
theorem w_c2 : (Jvm.Cond.code ({ cls := "java/lang/Object", name := "<init>", desc := "()V" } : Jvm.MethodName) object_method_1_code (1 : Nat) (Option.none : Option Jvm.ClassFile.FieldType)).before args0 about1 = true := code_word (m := ⟨0, 0⟩) (meth := k0m0) (c := k0c0) (by decide +kernel) rfl rfl rfl (by decide +kernel)
set_option maxRecDepth 65536 in
theorem w_c3 : (Jvm.Cond.code ({ cls := "com/example/graphweave/graphweave/ArgumentsHasNextPinLaw", name := "step", desc := "(Lcom/example/graphweave/graphweave/Arguments;[Ljava/lang/String;II)Z" } : Jvm.MethodName) method_2_code (7 : Nat) (Option.some Jvm.ClassFile.FieldType.boolean)).before args0 about1 = true := code_word (m := ⟨1, 1⟩) (meth := k1m1) (c := k1c1) (by decide +kernel) rfl rfl rfl (by decide +kernel)
set_option maxRecDepth 65536 in
theorem w_c4 : (Jvm.Cond.code ({ cls := "com/example/graphweave/graphweave/Arguments", name := "hasNext", desc := "()Z" } : Jvm.MethodName) prog_1_method_2_code (1 : Nat) (Option.some Jvm.ClassFile.FieldType.boolean)).before args0 about1 = true := code_word (m := ⟨8, 1⟩) (meth := k8m1) (c := k8c1) (by decide +kernel) rfl rfl rfl (by decide +kernel)
set_option maxRecDepth 65536 in
theorem w_c5 : (Jvm.Cond.code ({ cls := "java/lang/String", name := "valueOf", desc := "(C)Ljava/lang/String;" } : Jvm.MethodName) jdk_42_method_139_code (1 : Nat) (Option.some (Jvm.ClassFile.FieldType.object "java/lang/String"))).before args0 about1 = true := code_word (m := ⟨7, 2⟩) (meth := k7m2) (c := k7c2) (by decide +kernel) rfl rfl rfl (by decide +kernel)
set_option maxRecDepth 65536 in
theorem w_c6 : (Jvm.Cond.code ({ cls := "java/lang/StringLatin1", name := "canEncode", desc := "(C)Z" } : Jvm.MethodName) jdk_43_method_3_code (1 : Nat) (Option.some Jvm.ClassFile.FieldType.boolean)).before args0 about1 = true := code_word (m := ⟨10, 1⟩) (meth := k10m1) (c := k10c1) (by decide +kernel) rfl rfl rfl (by decide +kernel)
set_option maxRecDepth 65536 in
theorem w_c7 : (Jvm.Cond.code ({ cls := "java/lang/StringLatin1", name := "toBytes", desc := "(C)[B" } : Jvm.MethodName) jdk_43_method_46_code (1 : Nat) (Option.some (Jvm.ClassFile.FieldType.array Jvm.ClassFile.FieldType.byte))).before args0 about1 = true := code_word (m := ⟨10, 2⟩) (meth := k10m2) (c := k10c2) (by decide +kernel) rfl rfl rfl (by decide +kernel)
set_option maxRecDepth 65536 in
theorem w_c8 : (Jvm.Cond.code ({ cls := "java/lang/String", name := "<init>", desc := "([BB)V" } : Jvm.MethodName) jdk_42_method_151_code (3 : Nat) (Option.none : Option Jvm.ClassFile.FieldType)).before args0 about1 = true := code_word (m := ⟨7, 3⟩) (meth := k7m3) (c := k7c3) (by decide +kernel) rfl rfl rfl (by decide +kernel)
set_option maxRecDepth 65536 in
theorem w_c9 : (Jvm.Cond.code ({ cls := "com/example/graphweave/graphweave/Arguments", name := "next", desc := "()Ljava/lang/String;" } : Jvm.MethodName) prog_1_method_3_code (1 : Nat) (Option.some (Jvm.ClassFile.FieldType.object "java/lang/String"))).before args0 about1 = true := code_word (m := ⟨8, 2⟩) (meth := k8m2) (c := k8c2) (by decide +kernel) rfl rfl rfl (by decide +kernel)
set_option maxRecDepth 65536 in
theorem w_c10 : (Jvm.Cond.code ({ cls := "java/lang/String", name := "equals", desc := "(Ljava/lang/Object;)Z" } : Jvm.MethodName) jdk_42_method_66_code (3 : Nat) (Option.some Jvm.ClassFile.FieldType.boolean)).before args0 about1 = true := code_word (m := ⟨7, 1⟩) (meth := k7m1) (c := k7c1) (by decide +kernel) rfl rfl rfl (by decide +kernel)
def codes1 : List Jvm.Cond := [Jvm.Cond.code x code maxLocals ret, Jvm.Cond.code ({ cls := "com/example/graphweave/graphweave/Arguments", name := "<init>", desc := "(Ljava/lang/String;Ljava/lang/String;[Ljava/lang/String;)V" } : Jvm.MethodName) prog_1_method_1_code (4 : Nat) (Option.none : Option Jvm.ClassFile.FieldType), Jvm.Cond.code ({ cls := "java/lang/Object", name := "<init>", desc := "()V" } : Jvm.MethodName) object_method_1_code (1 : Nat) (Option.none : Option Jvm.ClassFile.FieldType), Jvm.Cond.code ({ cls := "com/example/graphweave/graphweave/ArgumentsHasNextPinLaw", name := "step", desc := "(Lcom/example/graphweave/graphweave/Arguments;[Ljava/lang/String;II)Z" } : Jvm.MethodName) method_2_code (7 : Nat) (Option.some Jvm.ClassFile.FieldType.boolean), Jvm.Cond.code ({ cls := "com/example/graphweave/graphweave/Arguments", name := "hasNext", desc := "()Z" } : Jvm.MethodName) prog_1_method_2_code (1 : Nat) (Option.some Jvm.ClassFile.FieldType.boolean), Jvm.Cond.code ({ cls := "java/lang/String", name := "valueOf", desc := "(C)Ljava/lang/String;" } : Jvm.MethodName) jdk_42_method_139_code (1 : Nat) (Option.some (Jvm.ClassFile.FieldType.object "java/lang/String")), Jvm.Cond.code ({ cls := "java/lang/StringLatin1", name := "canEncode", desc := "(C)Z" } : Jvm.MethodName) jdk_43_method_3_code (1 : Nat) (Option.some Jvm.ClassFile.FieldType.boolean), Jvm.Cond.code ({ cls := "java/lang/StringLatin1", name := "toBytes", desc := "(C)[B" } : Jvm.MethodName) jdk_43_method_46_code (1 : Nat) (Option.some (Jvm.ClassFile.FieldType.array Jvm.ClassFile.FieldType.byte)), Jvm.Cond.code ({ cls := "java/lang/String", name := "<init>", desc := "([BB)V" } : Jvm.MethodName) jdk_42_method_151_code (3 : Nat) (Option.none : Option Jvm.ClassFile.FieldType), Jvm.Cond.code ({ cls := "com/example/graphweave/graphweave/Arguments", name := "next", desc := "()Ljava/lang/String;" } : Jvm.MethodName) prog_1_method_3_code (1 : Nat) (Option.some (Jvm.ClassFile.FieldType.object "java/lang/String")), Jvm.Cond.code ({ cls := "java/lang/String", name := "equals", desc := "(Ljava/lang/Object;)Z" } : Jvm.MethodName) jdk_42_method_66_code (3 : Nat) (Option.some Jvm.ClassFile.FieldType.boolean)]
set_option maxRecDepth 65536 in
theorem codes_eq : words1.filter isCode = codes1 := rfl
theorem w_codes : ∀ c ∈ words1.filter isCode, c.before args0 about1 = true := by
  rw [codes_eq]
  intro c hc
  simp only [codes1, List.mem_cons, List.not_mem_nil, or_false] at hc
  rcases hc with rfl | rfl | rfl | rfl | rfl | rfl | rfl | rfl | rfl | rfl | rfl
  · exact w_c0
  · exact w_c1
  · exact w_c2
  · exact w_c3
  · exact w_c4
  · exact w_c5
  · exact w_c6
  · exact w_c7
  · exact w_c8
  · exact w_c9
  · exact w_c10
set_option maxRecDepth 65536 in
theorem w_t1 : (words1.take 24).all (fun c => isCode c || c.before args0 about1) = true := by decide +kernel
set_option maxRecDepth 65536 in
theorem w_t2 : ((words1.drop 24).take 24).all (fun c => isCode c || c.before args0 about1) = true := by decide +kernel
set_option maxRecDepth 65536 in
theorem w_t3 : (((words1.drop 24).drop 24).take 24).all (fun c => isCode c || c.before args0 about1) = true := by decide +kernel
set_option maxRecDepth 65536 in
theorem w_t4 : (((words1.drop 24).drop 24).drop 24).all (fun c => isCode c || c.before args0 about1) = true := by decide +kernel
theorem w_tables : (allAtoms (Jvm.Cond.code x code maxLocals ret :: tables_1)).before args0 about1 = true := by
  rw [allAtoms_all]
  show words1.all (fun c => c.before args0 about1) = true
  refine all_split ?_ w_codes
  rw [← List.take_append_drop 24 words1, List.all_append, w_t1, ← List.take_append_drop 24 (words1.drop 24), List.all_append, w_t2, ← List.take_append_drop 24 ((words1.drop 24).drop 24), List.all_append, w_t3, w_t4]
  rfl
set_option maxRecDepth 65536 in
theorem w_rest : rest_1_c.before args0 about1 = true := by decide +kernel
set_option maxRecDepth 65536 in
theorem w_case : (Jvm.Cond.and given_1 narrow_1).before args0 about1 = true := by decide +kernel
theorem w_applies : (headSpec (Jvm.Cond.code x code maxLocals ret :: tables_1) room_1).applies x e0.platform about1 = true :=
  (Spec.applies_iff w_frames).mpr ⟨w_running, w_runnable, w_alone, w_named, w_hears, w_ripe, w_room, w_tables⟩
theorem atStart : AtStart classFile x code maxLocals ret World_1 tables_1 room_1 Calls_1 rest_1 Pre_1 launch0 p0 e0 about1 theMethod args0 below0 :=
  ⟨lists_1, trivial, launch0.admits_env _ _ _, launch0.least_env, fairChoices_fair.cas, fairChoices_fair.clock, w_frames, w_args, w_heap, w_applies, trivial, w_rest, w_case⟩
end start1
theorem witness_1 : WitnessClaimed_1 := ⟨start1.p0, start1.e0, start1.about1, start1.theMethod, start1.args0, start1.below0, start1.atStart⟩
end Jvm.Pilot.@@N@@
