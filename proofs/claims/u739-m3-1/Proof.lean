import JvmDerived
import JvmDerived.Pilot.@@N@@Statement
import JvmDerived.Pilot.@@N@@Code
set_option linter.unusedVariables false
set_option linter.unusedSimpArgs false
namespace Jvm.RoadKit
open Sem ClassFile Op Lib Jvm.Stand Jvm.Free Jvm.LawKit
section New
variable {p : Program} {l : Launch} {e : Env} {R : Room} {s : State} {m : MethodId} {args : Array Value} {below : List Frame} {meth : Method} {c : Code} {T : State} {locs : List Loc} {cells slots : Nat}
theorem retI (X : Stand p l e R s m args below meth c T locs cells slots) (hx : p.tables.exec = Jvm.exec) {pc : Nat} {Ls : Array Slot} {z : Int32} {rest : List Value} (hret : meth.sig.returnType = some .int) (hd : decode c.code pc = .ok (.ireturn, 1)) {fs : List Frame}
    (hl : ∀ (f : JFrame) (acts : List Action), f.method = m → f.locked = none → f.entered = [] → (doReturn e (T.setTop f) acts (some (.int z))).1 = T.setFrames fs) : Steps p.tables e below (T.setTop (mkF m pc Ls (.int z :: rest))) (T.setFrames fs) := by
  have hm' : T.vm.method? m = some meth := X.method'
  have hn : narrow .int (.int z) = .int z := rfl
  show Steps p.tables e below (T.setTop { method := m, pc := pc, locals := Ls, stack := _ :: rest, locked := none }) _
  jvm_step X.here [X.here.top, hx, hd, hm', hret, hn]
  first | (intro acts; rw [hl _ acts rfl rfl rfl]) | rw [hl _ _ rfl rfl rfl]
  exact Steps.refl _
end New
end Jvm.RoadKit
namespace Jvm.Pilot.@@N@@
open Jvm Jvm.ClassFile Sem Op Lib Jvm.Free Jvm.Stand Jvm.LawKit Jvm.RoadKit Bundle Jvm.Pilot.@@N@@.Jvm.D
def AF (Z : State) (h : Heap) (a : Addr) (ty : FieldType) (n : Nat) (f : Nat → Value) : Prop := ∃ c : Cell, Arr Z h a c ty ∧ c.slots.size = n ∧ ∀ j, j < n → c.slots[j]? = some (f j)
theorem AF.lt {Z : State} {h : Heap} {a : Addr} {ty : FieldType} {n : Nat} {f : Nat → Value} (F : AF Z h a ty n f) : a < h.size := by obtain ⟨c, A, -⟩ := F; exact A.lt
theorem AF.ext {Z : State} {h h' : Heap} {a : Addr} {ty : FieldType} {n : Nat} {f : Nat → Value} (F : AF Z h a ty n f) (E : Ext h h') : AF Z h' a ty n f := by obtain ⟨c, A, r⟩ := F; exact ⟨c, A.ext E, r⟩
theorem AF.other {Z : State} {h h' : Heap} {a b : Addr} {ty : FieldType} {n : Nat} {f : Nat → Value} {sl : Nat} {v : Value} (F : AF Z h b ty n f) (W : Wr h h' a sl v) (q : b ≠ a) : AF Z h' b ty n f := by obtain ⟨c, A, r⟩ := F; exact ⟨c, A.other W q, r⟩
theorem AF.keep {Z : State} {h h' : Heap} {a : Addr} {ty : FieldType} {n : Nat} {f : Nat → Value} {ws : List Addr} (F : AF Z h a ty n f) (K : Keep h h' ws) (q : a ∉ ws) : AF Z h' a ty n f := by obtain ⟨c, A, r⟩ := F; exact ⟨c, ⟨K.2.1 a c A.1 q, A.2⟩, r⟩
theorem AF.congr {Z : State} {h : Heap} {a : Addr} {ty : FieldType} {n : Nat} {f g : Nat → Value} (F : AF Z h a ty n f) (q : ∀ j, j < n → f j = g j) : AF Z h a ty n g := by obtain ⟨c, A, s, r⟩ := F; exact ⟨c, A, s, fun j hj => by rw [r j hj, q j hj]⟩
theorem AF.new {Z : State} {h : Heap} {a : Addr} {ty : FieldType} {n : Nat} {k : ClassId} {z : Int32} (A : Arr Z h a (newA k ty z) ty) (q : z.toNatClampNeg = n) : AF Z h a ty n (fun _ => defaultValue ty) := ⟨_, A, by rw [sz_new, q], fun j hj => by simp [newA, q, hj]⟩
theorem AF.set {Z : State} {h h' : Heap} {a : Addr} {ty : FieldType} {n : Nat} {f : Nat → Value} {i : Nat} {v : Value} (F : AF Z h a ty n f) (W : Wr h h' a i v) : AF Z h' a ty n (fun j => if j = i then v else f j) := by
  obtain ⟨c, A, s, r⟩ := F
  refine ⟨_, A.same W, by rw [sz_set]; exact s, fun j hj => ?_⟩
  by_cases q : j = i
  · subst q
    simp [Cell.setSlot, s, hj]
  · have q' : i ≠ j := fun z => q z.symm
    simp only [q, if_false]
    rw [← r j hj]
    simp [Cell.setSlot, Array.getElem?_setIfInBounds, q']
theorem own_keep {h h' : Heap} (q : h' = h) : Keep h h' [] := by subst q; exact Keep.refl _ _
def own_pos (i : Nat) : Nat := 8 * (31 - i)
theorem own_pos_lt {i : Nat} (h : i < 32) : own_pos i < 249 := by unfold own_pos; omega
theorem own_q1 {i : Nat} (h : i < 32) (hr : 44 < own_pos i % 52) : own_pos i / 52 + 1 < 5 := by
  have q : ∀ i, i < 32 → 44 < own_pos i % 52 → own_pos i / 52 + 1 < 5 := by decide
  exact q i h hr
theorem own_lt32 {i : Nat} (h : i < 32) : Int32.ofNat i < (32 : Int32) := by
  have q : ∀ i, i < 32 → Int32.ofNat i < (32 : Int32) := by decide +kernel
  exact q i h
theorem own_x4 {i : Nat} (h : i < 32) : (8 : Int32) * ((31 : Int32) - Int32.ofNat i) = Int32.ofNat (own_pos i) := by
  have q : ∀ i, i < 32 → (8 : Int32) * ((31 : Int32) - Int32.ofNat i) = Int32.ofNat (own_pos i) := by decide +kernel
  exact q i h
theorem own_x5 {i : Nat} (h : i < 32) : Int32.ofNat (own_pos i) / (52 : Int32) = Int32.ofNat (own_pos i / 52) := by
  have q : ∀ i, i < 32 → Int32.ofNat (own_pos i) / (52 : Int32) = Int32.ofNat (own_pos i / 52) := by decide +kernel
  exact q i h
theorem own_x6 {i : Nat} (h : i < 32) : Int32.ofNat (own_pos i) % (52 : Int32) = Int32.ofNat (own_pos i % 52) := by
  have q : ∀ i, i < 32 → Int32.ofNat (own_pos i) % (52 : Int32) = Int32.ofNat (own_pos i % 52) := by decide +kernel
  exact q i h
theorem own_x9 {i : Nat} (h : i < 32) : (52 : Int32) - Int32.ofNat (own_pos i % 52) = Int32.ofNat (52 - own_pos i % 52) := by
  have q : ∀ i, i < 32 → (52 : Int32) - Int32.ofNat (own_pos i % 52) = Int32.ofNat (52 - own_pos i % 52) := by decide +kernel
  exact q i h
theorem own_44 {i : Nat} (h : i < 32) (hr : 44 < own_pos i % 52) : (44 : Int32) < Int32.ofNat (own_pos i % 52) := by
  have q : ∀ i, i < 32 → 44 < own_pos i % 52 → (44 : Int32) < Int32.ofNat (own_pos i % 52) := by decide +kernel
  exact q i h hr
theorem own_n44 {i : Nat} (h : i < 32) (hr : ¬ 44 < own_pos i % 52) : ¬ (44 : Int32) < Int32.ofNat (own_pos i % 52) := by
  have q : ∀ i, i < 32 → ¬ 44 < own_pos i % 52 → ¬ (44 : Int32) < Int32.ofNat (own_pos i % 52) := by decide +kernel
  exact q i h hr
theorem own_add (q k : Nat) : Int32.ofNat q + Int32.ofNat k = Int32.ofNat (q + k) := (Int32.ofNat_add q k).symm
theorem own_x7 (o i : Nat) : Int32.ofNat o + Int32.ofNat i = Int32.ofNat (o + i) := own_add o i
theorem own_off (p : Int32) : ∃ o : Nat, o < 8 ∧ (p &&& (7 : Int32)) = Int32.ofNat o := by
  have h1 := c_mask p 7 3 (by decide) (by decide)
  refine ⟨(p.toInt % 8).toNat, by omega, Int32.toInt_inj.mp ?_⟩
  rw [h1, toInt_of rfl (by omega)]
  omega
def own_byte (w : Int64) (t : Nat) : Int32 := nar .byte ((XT.ushrL w (Int32.ofNat (56 - 8 * t))).toInt32.toInt8.toInt32)
def own_put (B : Nat → Int32) (q : Nat) (w : Int64) (j : Nat) : Int32 := if q ≤ j ∧ j < q + 8 then own_byte w (j - q) else B j
def own_b (B : Nat → Int32) (o i : Nat) : Int64 := (B (o + i)).toInt64 &&& (255 : Int64)
def own_v (b : Nat → Int64) : Nat → Nat → Int64
  | 0, _ => 0
  | i + 1, j =>
    if 44 < own_pos i % 52 then
      if j = own_pos i / 52 + 1 then own_v b i (own_pos i / 52 + 1) ||| XT.ushrL (b i) (Int32.ofNat (52 - own_pos i % 52))
      else if j = own_pos i / 52 then own_v b i (own_pos i / 52) ||| ((b i <<< ((Int32.ofNat (own_pos i % 52)).toInt64 &&& 63)) &&& (4503599627370495 : Int64))
      else own_v b i j
    else if j = own_pos i / 52 then own_v b i (own_pos i / 52) ||| ((b i <<< ((Int32.ofNat (own_pos i % 52)).toInt64 &&& 63)) &&& (4503599627370495 : Int64))
    else own_v b i j
theorem own_v_a (b : Nat → Int64) (i j : Nat) (hr : ¬ 44 < own_pos i % 52) : (if j = own_pos i / 52 then Value.long (own_v b i (own_pos i / 52) ||| ((b i <<< ((Int32.ofNat (own_pos i % 52)).toInt64 &&& 63)) &&& (4503599627370495 : Int64))) else Value.long (own_v b i j)) = Value.long (own_v b (i + 1) j) := by
  simp only [own_v, hr, if_false]
  split <;> rfl
theorem own_v_b (b : Nat → Int64) (i j : Nat) (hr : 44 < own_pos i % 52) : (if j = own_pos i / 52 + 1 then Value.long (own_v b i (own_pos i / 52 + 1) ||| XT.ushrL (b i) (Int32.ofNat (52 - own_pos i % 52))) else if j = own_pos i / 52 then Value.long (own_v b i (own_pos i / 52) ||| ((b i <<< ((Int32.ofNat (own_pos i % 52)).toInt64 &&& 63)) &&& (4503599627370495 : Int64))) else Value.long (own_v b i j)) = Value.long (own_v b (i + 1) j) := by
  simp only [own_v, hr, if_true]
  split
  · rfl
  · split <;> rfl
theorem own_sh_amt : ∀ k, k < 64 → (((Int32.ofNat k).toInt64 &&& 63).toBitVec.smod 64).toNat = k := by decide +kernel
theorem own_shl (x : Int64) {k : Nat} (hk : k < 64) : (x <<< ((Int32.ofNat k).toInt64 &&& 63)).toBitVec = x.toBitVec <<< k := by
  show x.toBitVec <<< (((Int32.ofNat k).toInt64 &&& 63).toBitVec.smod 64) = _
  rw [BitVec.shiftLeft_eq', own_sh_amt k hk]
theorem own_us_amt : ∀ k, k < 64 → (((Int32.ofNat k).toInt64.toUInt64 &&& Int64.toUInt64 63).toBitVec % 64).toNat = k := by decide +kernel
theorem own_ushr (x : Int64) {k : Nat} (hk : k < 64) : (XT.ushrL x (Int32.ofNat k)).toBitVec = x.toBitVec >>> k := by
  show x.toBitVec >>> (((Int32.ofNat k).toInt64.toUInt64 &&& Int64.toUInt64 63).toBitVec % 64) = _
  rw [BitVec.ushiftRight_eq', own_us_amt k hk]
theorem own_ushr0 (w : Int64) : XT.ushrL w (Int32.ofNat 0) = w := by
  apply Int64.toBitVec_inj.mp
  rw [own_ushr w (by decide)]
  simp
theorem own_sel8 (b B : Nat → Int32) (q j : Nat) : (if j = q + 7 then Value.int (b 7) else if j = q + 6 then Value.int (b 6) else if j = q + 5 then Value.int (b 5) else if j = q + 4 then Value.int (b 4) else if j = q + 3 then Value.int (b 3) else if j = q + 2 then Value.int (b 2) else if j = q + 1 then Value.int (b 1) else if j = q then Value.int (b 0) else Value.int (B j)) = Value.int (if q ≤ j ∧ j < q + 8 then b (j - q) else B j) := by
  by_cases h : q ≤ j ∧ j < q + 8
  · obtain ⟨t, rfl⟩ : ∃ t, j = q + t := ⟨j - q, by omega⟩
    rw [if_pos h, Nat.add_sub_cancel_left]
    rcases (by omega : t = 0 ∨ t = 1 ∨ t = 2 ∨ t = 3 ∨ t = 4 ∨ t = 5 ∨ t = 6 ∨ t = 7) with rfl | rfl | rfl | rfl | rfl | rfl | rfl | rfl <;> simp
  · rw [if_neg h]
    have n0 : j ≠ q := by omega
    have n1 : j ≠ q + 1 := by omega
    have n2 : j ≠ q + 2 := by omega
    have n3 : j ≠ q + 3 := by omega
    have n4 : j ≠ q + 4 := by omega
    have n5 : j ≠ q + 5 := by omega
    have n6 : j ≠ q + 6 := by omega
    have n7 : j ≠ q + 7 := by omega
    simp [n0, n1, n2, n3, n4, n5, n6, n7]
theorem own_b7 (w : Int64) : own_byte w 7 = nar .byte (w.toInt32.toInt8.toInt32) := by unfold own_byte; rw [show 56 - 8 * 7 = 0 from rfl, own_ushr0]
theorem own_put_ok (B : Nat → Int32) (q : Nat) (w : Int64) (j : Nat) (_hj : j < 40) : (if j = q + 7 then Value.int (nar .byte (w.toInt32.toInt8.toInt32)) else if j = q + 6 then Value.int (nar .byte ((XT.ushrL w (8 : Int32)).toInt32.toInt8.toInt32)) else if j = q + 5 then Value.int (nar .byte ((XT.ushrL w (16 : Int32)).toInt32.toInt8.toInt32)) else if j = q + 4 then Value.int (nar .byte ((XT.ushrL w (24 : Int32)).toInt32.toInt8.toInt32)) else if j = q + 3 then Value.int (nar .byte ((XT.ushrL w (32 : Int32)).toInt32.toInt8.toInt32)) else if j = q + 2 then Value.int (nar .byte ((XT.ushrL w (40 : Int32)).toInt32.toInt8.toInt32)) else if j = q + 1 then Value.int (nar .byte ((XT.ushrL w (48 : Int32)).toInt32.toInt8.toInt32)) else if j = q then Value.int (nar .byte ((XT.ushrL w (56 : Int32)).toInt32.toInt8.toInt32)) else Value.int (B j)) = Value.int (own_put B q w j) := by
  have k := own_sel8 (own_byte w) B q j
  rw [own_b7] at k
  exact k
def own_bv (b : Nat → BitVec 64) : Nat → Nat → BitVec 64
  | 0, _ => 0#64
  | i + 1, j =>
    if 44 < own_pos i % 52 then
      if j = own_pos i / 52 + 1 then own_bv b i (own_pos i / 52 + 1) ||| (b i >>> (52 - own_pos i % 52))
      else if j = own_pos i / 52 then own_bv b i (own_pos i / 52) ||| ((b i <<< (own_pos i % 52)) &&& 4503599627370495#64)
      else own_bv b i j
    else if j = own_pos i / 52 then own_bv b i (own_pos i / 52) ||| ((b i <<< (own_pos i % 52)) &&& 4503599627370495#64)
    else own_bv b i j
theorem own_v_bv (b : Nat → Int64) (b' : Nat → BitVec 64) (i : Nat) (h : ∀ k, k < i → (b k).toBitVec = b' k) : ∀ j, (own_v b i j).toBitVec = own_bv b' i j := by
  induction i with
  | zero => intro j; rfl
  | succ i ih =>
    intro j
    have ih' := ih (fun k hk => h k (by omega))
    have hb := h i (by omega)
    have hs : ((b i <<< ((Int32.ofNat (own_pos i % 52)).toInt64 &&& 63)) &&& (4503599627370495 : Int64)).toBitVec = ((b' i <<< (own_pos i % 52)) &&& 4503599627370495#64) := by
      rw [Int64.toBitVec_and, own_shl _ (by omega), hb]; rfl
    have hu : (XT.ushrL (b i) (Int32.ofNat (52 - own_pos i % 52))).toBitVec = b' i >>> (52 - own_pos i % 52) := by
      rw [own_ushr _ (by omega), hb]
    simp only [own_v, own_bv]
    split
    · split
      · rw [Int64.toBitVec_or, ih', hu]
      · split
        · rw [Int64.toBitVec_or, ih', hs]
        · exact ih' j
    · split
      · rw [Int64.toBitVec_or, ih', hs]
      · exact ih' j
theorem own_255 : ∀ i, i < 64 → (255#64).getLsbD i = decide (i < 8) := by decide
theorem own_byte_bv (w : Int64) (t : Nat) : ((own_byte w t).toInt64 &&& (255 : Int64)).toBitVec = (w.toBitVec >>> (56 - 8 * t)) &&& 255#64 := by
  have hx := own_ushr w (k := 56 - 8 * t) (by omega)
  unfold own_byte
  generalize XT.ushrL w (Int32.ofNat (56 - 8 * t)) = x at *
  rw [← hx]
  apply BitVec.eq_of_getLsbD_eq
  intro i hi
  show ((((((((x.toBitVec.signExtend 32).signExtend 8).signExtend 32).signExtend 8).signExtend 32).signExtend 64) &&& 255#64).getLsbD i) = _
  rw [BitVec.getLsbD_and, BitVec.getLsbD_and, own_255 i hi]
  by_cases h8 : i < 8
  · have h32 : i < 32 := by omega
    simp only [BitVec.getLsbD_signExtend, h8, h32, hi, decide_true, if_true, Bool.true_and]
  · simp only [h8, decide_false, Bool.and_false]
def own_sel (q1 q2 q3 q4 : Int64) (i : Nat) : BitVec 64 := if i < 8 then q1.toBitVec else if i < 16 then q2.toBitVec else if i < 24 then q3.toBitVec else q4.toBitVec
def own_bs (q1 q2 q3 q4 : Int64) (i : Nat) : BitVec 64 := (own_sel q1 q2 q3 q4 i >>> (56 - 8 * (i % 8))) &&& 255#64
theorem own_bsel (B : Nat → Int32) (q1 q2 q3 q4 : Int64) (o i : Nat) (hi : i < 32) : (own_b (own_put (own_put (own_put (own_put B o q1) (o + 8) q2) (o + 16) q3) (o + 24) q4) o i).toBitVec = own_bs q1 q2 q3 q4 i := by
  unfold own_b own_bs own_sel
  by_cases h1 : i < 8
  · have e : own_put (own_put (own_put (own_put B o q1) (o + 8) q2) (o + 16) q3) (o + 24) q4 (o + i) = own_byte q1 (i % 8) := by
      have c4 : ¬ (o + 24 ≤ o + i ∧ o + i < o + 24 + 8) := by omega
      have c3 : ¬ (o + 16 ≤ o + i ∧ o + i < o + 16 + 8) := by omega
      have c2 : ¬ (o + 8 ≤ o + i ∧ o + i < o + 8 + 8) := by omega
      have c1 : o ≤ o + i ∧ o + i < o + 8 := by omega
      simp only [own_put, c4, c3, c2, c1, if_false, if_true, and_self]
      rw [show o + i - o = i % 8 by omega]
    rw [e, own_byte_bv]; simp [h1]
  · by_cases h2 : i < 16
    · have e : own_put (own_put (own_put (own_put B o q1) (o + 8) q2) (o + 16) q3) (o + 24) q4 (o + i) = own_byte q2 (i % 8) := by
        have c4 : ¬ (o + 24 ≤ o + i ∧ o + i < o + 24 + 8) := by omega
        have c3 : ¬ (o + 16 ≤ o + i ∧ o + i < o + 16 + 8) := by omega
        have c2 : o + 8 ≤ o + i ∧ o + i < o + 8 + 8 := by omega
        simp only [own_put, c4, c3, c2, if_false, if_true, and_self]
        rw [show o + i - (o + 8) = i % 8 by omega]
      rw [e, own_byte_bv]; simp [h1, h2]
    · by_cases h3 : i < 24
      · have e : own_put (own_put (own_put (own_put B o q1) (o + 8) q2) (o + 16) q3) (o + 24) q4 (o + i) = own_byte q3 (i % 8) := by
          have c4 : ¬ (o + 24 ≤ o + i ∧ o + i < o + 24 + 8) := by omega
          have c3 : o + 16 ≤ o + i ∧ o + i < o + 16 + 8 := by omega
          simp only [own_put, c4, c3, if_false, if_true, and_self]
          rw [show o + i - (o + 16) = i % 8 by omega]
        rw [e, own_byte_bv]; simp [h1, h2, h3]
      · have e : own_put (own_put (own_put (own_put B o q1) (o + 8) q2) (o + 16) q3) (o + 24) q4 (o + i) = own_byte q4 (i % 8) := by
          have c4 : o + 24 ≤ o + i ∧ o + i < o + 24 + 8 := by omega
          simp only [own_put, c4, if_true, and_self]
          rw [show o + i - (o + 24) = i % 8 by omega]
        rw [e, own_byte_bv]; simp [h1, h2, h3]
set_option maxRecDepth 10000 in
theorem own_l0 (b : Nat → BitVec 64) : own_bv b 32 0 = ((((((((b 25 <<< 48) &&& 4503599627370495#64) ||| ((b 26 <<< 40) &&& 4503599627370495#64)) ||| ((b 27 <<< 32) &&& 4503599627370495#64)) ||| ((b 28 <<< 24) &&& 4503599627370495#64)) ||| ((b 29 <<< 16) &&& 4503599627370495#64)) ||| ((b 30 <<< 8) &&& 4503599627370495#64)) ||| (b 31 &&& 4503599627370495#64)) := by
  simp [own_bv, own_pos]
theorem own_t0 (w0 w1 w2 w3 : BitVec 64) : ((((((((((w3 >>> 48) &&& 255#64) <<< 48) &&& 4503599627370495#64) ||| ((((w3 >>> 40) &&& 255#64) <<< 40) &&& 4503599627370495#64)) ||| ((((w3 >>> 32) &&& 255#64) <<< 32) &&& 4503599627370495#64)) ||| ((((w3 >>> 24) &&& 255#64) <<< 24) &&& 4503599627370495#64)) ||| ((((w3 >>> 16) &&& 255#64) <<< 16) &&& 4503599627370495#64)) ||| ((((w3 >>> 8) &&& 255#64) <<< 8) &&& 4503599627370495#64)) ||| (((w3 >>> 0) &&& 255#64) &&& 4503599627370495#64)) = w3 &&& 4503599627370495#64 := by
  apply BitVec.eq_of_getLsbD_eq
  intro t ht
  match t, ht with
  | 0, _ => simp
  | 1, _ => simp
  | 2, _ => simp
  | 3, _ => simp
  | 4, _ => simp
  | 5, _ => simp
  | 6, _ => simp
  | 7, _ => simp
  | 8, _ => simp
  | 9, _ => simp
  | 10, _ => simp
  | 11, _ => simp
  | 12, _ => simp
  | 13, _ => simp
  | 14, _ => simp
  | 15, _ => simp
  | 16, _ => simp
  | 17, _ => simp
  | 18, _ => simp
  | 19, _ => simp
  | 20, _ => simp
  | 21, _ => simp
  | 22, _ => simp
  | 23, _ => simp
  | 24, _ => simp
  | 25, _ => simp
  | 26, _ => simp
  | 27, _ => simp
  | 28, _ => simp
  | 29, _ => simp
  | 30, _ => simp
  | 31, _ => simp
  | 32, _ => simp
  | 33, _ => simp
  | 34, _ => simp
  | 35, _ => simp
  | 36, _ => simp
  | 37, _ => simp
  | 38, _ => simp
  | 39, _ => simp
  | 40, _ => simp
  | 41, _ => simp
  | 42, _ => simp
  | 43, _ => simp
  | 44, _ => simp
  | 45, _ => simp
  | 46, _ => simp
  | 47, _ => simp
  | 48, _ => simp
  | 49, _ => simp
  | 50, _ => simp
  | 51, _ => simp
  | 52, _ => simp
  | 53, _ => simp
  | 54, _ => simp
  | 55, _ => simp
  | 56, _ => simp
  | 57, _ => simp
  | 58, _ => simp
  | 59, _ => simp
  | 60, _ => simp
  | 61, _ => simp
  | 62, _ => simp
  | 63, _ => simp
  | n + 64, h => exact absurd h (by omega)
theorem own_r0 (q1 q2 q3 q4 q6 : Int64) (o : Nat) : own_v (own_b (own_put (own_put (own_put (own_put (own_put (own_put (fun _ => (0 : Int32)) 0 q6) 32 (q6 ^^^ (-1 : Int64))) o q1) (o + 8) q2) (o + 16) q3) (o + 24) q4) o) 32 0 = (q4 &&& (4503599627370495 : Int64)) := by
  apply Int64.toBitVec_inj.mp
  rw [own_v_bv _ (own_bs q1 q2 q3 q4) 32 (fun i hi => own_bsel _ q1 q2 q3 q4 o i hi), own_l0]
  rw [Int64.toBitVec_and]
  exact own_t0 q1.toBitVec q2.toBitVec q3.toBitVec q4.toBitVec
set_option maxRecDepth 10000 in
theorem own_l1 (b : Nat → BitVec 64) : own_bv b 32 1 = ((((((((b 19 <<< 44) &&& 4503599627370495#64) ||| ((b 20 <<< 36) &&& 4503599627370495#64)) ||| ((b 21 <<< 28) &&& 4503599627370495#64)) ||| ((b 22 <<< 20) &&& 4503599627370495#64)) ||| ((b 23 <<< 12) &&& 4503599627370495#64)) ||| ((b 24 <<< 4) &&& 4503599627370495#64)) ||| (b 25 >>> 4)) := by
  simp [own_bv, own_pos]
theorem own_t1 (w0 w1 w2 w3 : BitVec 64) : ((((((((((w2 >>> 32) &&& 255#64) <<< 44) &&& 4503599627370495#64) ||| ((((w2 >>> 24) &&& 255#64) <<< 36) &&& 4503599627370495#64)) ||| ((((w2 >>> 16) &&& 255#64) <<< 28) &&& 4503599627370495#64)) ||| ((((w2 >>> 8) &&& 255#64) <<< 20) &&& 4503599627370495#64)) ||| ((((w2 >>> 0) &&& 255#64) <<< 12) &&& 4503599627370495#64)) ||| ((((w3 >>> 56) &&& 255#64) <<< 4) &&& 4503599627370495#64)) ||| (((w3 >>> 48) &&& 255#64) >>> 4)) = (w3 >>> 52) ||| ((w2 <<< 12) &&& 4503599627370495#64) := by
  apply BitVec.eq_of_getLsbD_eq
  intro t ht
  match t, ht with
  | 0, _ => simp
  | 1, _ => simp
  | 2, _ => simp
  | 3, _ => simp
  | 4, _ => simp
  | 5, _ => simp
  | 6, _ => simp
  | 7, _ => simp
  | 8, _ => simp
  | 9, _ => simp
  | 10, _ => simp
  | 11, _ => simp
  | 12, _ => simp
  | 13, _ => simp
  | 14, _ => simp
  | 15, _ => simp
  | 16, _ => simp
  | 17, _ => simp
  | 18, _ => simp
  | 19, _ => simp
  | 20, _ => simp
  | 21, _ => simp
  | 22, _ => simp
  | 23, _ => simp
  | 24, _ => simp
  | 25, _ => simp
  | 26, _ => simp
  | 27, _ => simp
  | 28, _ => simp
  | 29, _ => simp
  | 30, _ => simp
  | 31, _ => simp
  | 32, _ => simp
  | 33, _ => simp
  | 34, _ => simp
  | 35, _ => simp
  | 36, _ => simp
  | 37, _ => simp
  | 38, _ => simp
  | 39, _ => simp
  | 40, _ => simp
  | 41, _ => simp
  | 42, _ => simp
  | 43, _ => simp
  | 44, _ => simp
  | 45, _ => simp
  | 46, _ => simp
  | 47, _ => simp
  | 48, _ => simp
  | 49, _ => simp
  | 50, _ => simp
  | 51, _ => simp
  | 52, _ => simp
  | 53, _ => simp
  | 54, _ => simp
  | 55, _ => simp
  | 56, _ => simp
  | 57, _ => simp
  | 58, _ => simp
  | 59, _ => simp
  | 60, _ => simp
  | 61, _ => simp
  | 62, _ => simp
  | 63, _ => simp
  | n + 64, h => exact absurd h (by omega)
theorem own_r1 (q1 q2 q3 q4 q6 : Int64) (o : Nat) : own_v (own_b (own_put (own_put (own_put (own_put (own_put (own_put (fun _ => (0 : Int32)) 0 q6) 32 (q6 ^^^ (-1 : Int64))) o q1) (o + 8) q2) (o + 16) q3) (o + 24) q4) o) 32 1 = ((XT.ushrL q4 (52 : Int32)) ||| ((q3 <<< (((12 : Int32)).toInt64 &&& 63)) &&& (4503599627370495 : Int64))) := by
  apply Int64.toBitVec_inj.mp
  rw [own_v_bv _ (own_bs q1 q2 q3 q4) 32 (fun i hi => own_bsel _ q1 q2 q3 q4 o i hi), own_l1]
  have e1 : (XT.ushrL q4 (52 : Int32)).toBitVec = q4.toBitVec >>> 52 := own_ushr q4 (k := 52) (by decide)
  have e2 : (q3 <<< (((12 : Int32)).toInt64 &&& 63)).toBitVec = q3.toBitVec <<< 12 := own_shl q3 (k := 12) (by decide)
  rw [Int64.toBitVec_or, Int64.toBitVec_and, e1, e2]
  exact own_t1 q1.toBitVec q2.toBitVec q3.toBitVec q4.toBitVec
set_option maxRecDepth 10000 in
theorem own_l2 (b : Nat → BitVec 64) : own_bv b 32 2 = ((((((((b 12 <<< 48) &&& 4503599627370495#64) ||| ((b 13 <<< 40) &&& 4503599627370495#64)) ||| ((b 14 <<< 32) &&& 4503599627370495#64)) ||| ((b 15 <<< 24) &&& 4503599627370495#64)) ||| ((b 16 <<< 16) &&& 4503599627370495#64)) ||| ((b 17 <<< 8) &&& 4503599627370495#64)) ||| (b 18 &&& 4503599627370495#64)) := by
  simp [own_bv, own_pos]
theorem own_t2 (w0 w1 w2 w3 : BitVec 64) : ((((((((((w1 >>> 24) &&& 255#64) <<< 48) &&& 4503599627370495#64) ||| ((((w1 >>> 16) &&& 255#64) <<< 40) &&& 4503599627370495#64)) ||| ((((w1 >>> 8) &&& 255#64) <<< 32) &&& 4503599627370495#64)) ||| ((((w1 >>> 0) &&& 255#64) <<< 24) &&& 4503599627370495#64)) ||| ((((w2 >>> 56) &&& 255#64) <<< 16) &&& 4503599627370495#64)) ||| ((((w2 >>> 48) &&& 255#64) <<< 8) &&& 4503599627370495#64)) ||| (((w2 >>> 40) &&& 255#64) &&& 4503599627370495#64)) = (w2 >>> 40) ||| ((w1 <<< 24) &&& 4503599627370495#64) := by
  apply BitVec.eq_of_getLsbD_eq
  intro t ht
  match t, ht with
  | 0, _ => simp
  | 1, _ => simp
  | 2, _ => simp
  | 3, _ => simp
  | 4, _ => simp
  | 5, _ => simp
  | 6, _ => simp
  | 7, _ => simp
  | 8, _ => simp
  | 9, _ => simp
  | 10, _ => simp
  | 11, _ => simp
  | 12, _ => simp
  | 13, _ => simp
  | 14, _ => simp
  | 15, _ => simp
  | 16, _ => simp
  | 17, _ => simp
  | 18, _ => simp
  | 19, _ => simp
  | 20, _ => simp
  | 21, _ => simp
  | 22, _ => simp
  | 23, _ => simp
  | 24, _ => simp
  | 25, _ => simp
  | 26, _ => simp
  | 27, _ => simp
  | 28, _ => simp
  | 29, _ => simp
  | 30, _ => simp
  | 31, _ => simp
  | 32, _ => simp
  | 33, _ => simp
  | 34, _ => simp
  | 35, _ => simp
  | 36, _ => simp
  | 37, _ => simp
  | 38, _ => simp
  | 39, _ => simp
  | 40, _ => simp
  | 41, _ => simp
  | 42, _ => simp
  | 43, _ => simp
  | 44, _ => simp
  | 45, _ => simp
  | 46, _ => simp
  | 47, _ => simp
  | 48, _ => simp
  | 49, _ => simp
  | 50, _ => simp
  | 51, _ => simp
  | 52, _ => simp
  | 53, _ => simp
  | 54, _ => simp
  | 55, _ => simp
  | 56, _ => simp
  | 57, _ => simp
  | 58, _ => simp
  | 59, _ => simp
  | 60, _ => simp
  | 61, _ => simp
  | 62, _ => simp
  | 63, _ => simp
  | n + 64, h => exact absurd h (by omega)
theorem own_r2 (q1 q2 q3 q4 q6 : Int64) (o : Nat) : own_v (own_b (own_put (own_put (own_put (own_put (own_put (own_put (fun _ => (0 : Int32)) 0 q6) 32 (q6 ^^^ (-1 : Int64))) o q1) (o + 8) q2) (o + 16) q3) (o + 24) q4) o) 32 2 = ((XT.ushrL q3 (40 : Int32)) ||| ((q2 <<< (((24 : Int32)).toInt64 &&& 63)) &&& (4503599627370495 : Int64))) := by
  apply Int64.toBitVec_inj.mp
  rw [own_v_bv _ (own_bs q1 q2 q3 q4) 32 (fun i hi => own_bsel _ q1 q2 q3 q4 o i hi), own_l2]
  have e1 : (XT.ushrL q3 (40 : Int32)).toBitVec = q3.toBitVec >>> 40 := own_ushr q3 (k := 40) (by decide)
  have e2 : (q2 <<< (((24 : Int32)).toInt64 &&& 63)).toBitVec = q2.toBitVec <<< 24 := own_shl q2 (k := 24) (by decide)
  rw [Int64.toBitVec_or, Int64.toBitVec_and, e1, e2]
  exact own_t2 q1.toBitVec q2.toBitVec q3.toBitVec q4.toBitVec
set_option maxRecDepth 10000 in
theorem own_l3 (b : Nat → BitVec 64) : own_bv b 32 3 = ((((((((b 6 <<< 44) &&& 4503599627370495#64) ||| ((b 7 <<< 36) &&& 4503599627370495#64)) ||| ((b 8 <<< 28) &&& 4503599627370495#64)) ||| ((b 9 <<< 20) &&& 4503599627370495#64)) ||| ((b 10 <<< 12) &&& 4503599627370495#64)) ||| ((b 11 <<< 4) &&& 4503599627370495#64)) ||| (b 12 >>> 4)) := by
  simp [own_bv, own_pos]
theorem own_t3 (w0 w1 w2 w3 : BitVec 64) : ((((((((((w0 >>> 8) &&& 255#64) <<< 44) &&& 4503599627370495#64) ||| ((((w0 >>> 0) &&& 255#64) <<< 36) &&& 4503599627370495#64)) ||| ((((w1 >>> 56) &&& 255#64) <<< 28) &&& 4503599627370495#64)) ||| ((((w1 >>> 48) &&& 255#64) <<< 20) &&& 4503599627370495#64)) ||| ((((w1 >>> 40) &&& 255#64) <<< 12) &&& 4503599627370495#64)) ||| ((((w1 >>> 32) &&& 255#64) <<< 4) &&& 4503599627370495#64)) ||| (((w1 >>> 24) &&& 255#64) >>> 4)) = (w1 >>> 28) ||| ((w0 <<< 36) &&& 4503599627370495#64) := by
  apply BitVec.eq_of_getLsbD_eq
  intro t ht
  match t, ht with
  | 0, _ => simp
  | 1, _ => simp
  | 2, _ => simp
  | 3, _ => simp
  | 4, _ => simp
  | 5, _ => simp
  | 6, _ => simp
  | 7, _ => simp
  | 8, _ => simp
  | 9, _ => simp
  | 10, _ => simp
  | 11, _ => simp
  | 12, _ => simp
  | 13, _ => simp
  | 14, _ => simp
  | 15, _ => simp
  | 16, _ => simp
  | 17, _ => simp
  | 18, _ => simp
  | 19, _ => simp
  | 20, _ => simp
  | 21, _ => simp
  | 22, _ => simp
  | 23, _ => simp
  | 24, _ => simp
  | 25, _ => simp
  | 26, _ => simp
  | 27, _ => simp
  | 28, _ => simp
  | 29, _ => simp
  | 30, _ => simp
  | 31, _ => simp
  | 32, _ => simp
  | 33, _ => simp
  | 34, _ => simp
  | 35, _ => simp
  | 36, _ => simp
  | 37, _ => simp
  | 38, _ => simp
  | 39, _ => simp
  | 40, _ => simp
  | 41, _ => simp
  | 42, _ => simp
  | 43, _ => simp
  | 44, _ => simp
  | 45, _ => simp
  | 46, _ => simp
  | 47, _ => simp
  | 48, _ => simp
  | 49, _ => simp
  | 50, _ => simp
  | 51, _ => simp
  | 52, _ => simp
  | 53, _ => simp
  | 54, _ => simp
  | 55, _ => simp
  | 56, _ => simp
  | 57, _ => simp
  | 58, _ => simp
  | 59, _ => simp
  | 60, _ => simp
  | 61, _ => simp
  | 62, _ => simp
  | 63, _ => simp
  | n + 64, h => exact absurd h (by omega)
theorem own_r3 (q1 q2 q3 q4 q6 : Int64) (o : Nat) : own_v (own_b (own_put (own_put (own_put (own_put (own_put (own_put (fun _ => (0 : Int32)) 0 q6) 32 (q6 ^^^ (-1 : Int64))) o q1) (o + 8) q2) (o + 16) q3) (o + 24) q4) o) 32 3 = ((XT.ushrL q2 (28 : Int32)) ||| ((q1 <<< (((36 : Int32)).toInt64 &&& 63)) &&& (4503599627370495 : Int64))) := by
  apply Int64.toBitVec_inj.mp
  rw [own_v_bv _ (own_bs q1 q2 q3 q4) 32 (fun i hi => own_bsel _ q1 q2 q3 q4 o i hi), own_l3]
  have e1 : (XT.ushrL q2 (28 : Int32)).toBitVec = q2.toBitVec >>> 28 := own_ushr q2 (k := 28) (by decide)
  have e2 : (q1 <<< (((36 : Int32)).toInt64 &&& 63)).toBitVec = q1.toBitVec <<< 36 := own_shl q1 (k := 36) (by decide)
  rw [Int64.toBitVec_or, Int64.toBitVec_and, e1, e2]
  exact own_t3 q1.toBitVec q2.toBitVec q3.toBitVec q4.toBitVec
set_option maxRecDepth 10000 in
theorem own_l4 (b : Nat → BitVec 64) : own_bv b 32 4 = (((((((b 0 <<< 40) &&& 4503599627370495#64) ||| ((b 1 <<< 32) &&& 4503599627370495#64)) ||| ((b 2 <<< 24) &&& 4503599627370495#64)) ||| ((b 3 <<< 16) &&& 4503599627370495#64)) ||| ((b 4 <<< 8) &&& 4503599627370495#64)) ||| (b 5 &&& 4503599627370495#64)) := by
  simp [own_bv, own_pos]
theorem own_t4 (w0 w1 w2 w3 : BitVec 64) : (((((((((w0 >>> 56) &&& 255#64) <<< 40) &&& 4503599627370495#64) ||| ((((w0 >>> 48) &&& 255#64) <<< 32) &&& 4503599627370495#64)) ||| ((((w0 >>> 40) &&& 255#64) <<< 24) &&& 4503599627370495#64)) ||| ((((w0 >>> 32) &&& 255#64) <<< 16) &&& 4503599627370495#64)) ||| ((((w0 >>> 24) &&& 255#64) <<< 8) &&& 4503599627370495#64)) ||| (((w0 >>> 16) &&& 255#64) &&& 4503599627370495#64)) = w0 >>> 16 := by
  apply BitVec.eq_of_getLsbD_eq
  intro t ht
  match t, ht with
  | 0, _ => simp
  | 1, _ => simp
  | 2, _ => simp
  | 3, _ => simp
  | 4, _ => simp
  | 5, _ => simp
  | 6, _ => simp
  | 7, _ => simp
  | 8, _ => simp
  | 9, _ => simp
  | 10, _ => simp
  | 11, _ => simp
  | 12, _ => simp
  | 13, _ => simp
  | 14, _ => simp
  | 15, _ => simp
  | 16, _ => simp
  | 17, _ => simp
  | 18, _ => simp
  | 19, _ => simp
  | 20, _ => simp
  | 21, _ => simp
  | 22, _ => simp
  | 23, _ => simp
  | 24, _ => simp
  | 25, _ => simp
  | 26, _ => simp
  | 27, _ => simp
  | 28, _ => simp
  | 29, _ => simp
  | 30, _ => simp
  | 31, _ => simp
  | 32, _ => simp
  | 33, _ => simp
  | 34, _ => simp
  | 35, _ => simp
  | 36, _ => simp
  | 37, _ => simp
  | 38, _ => simp
  | 39, _ => simp
  | 40, _ => simp
  | 41, _ => simp
  | 42, _ => simp
  | 43, _ => simp
  | 44, _ => simp
  | 45, _ => simp
  | 46, _ => simp
  | 47, _ => simp
  | 48, _ => simp
  | 49, _ => simp
  | 50, _ => simp
  | 51, _ => simp
  | 52, _ => simp
  | 53, _ => simp
  | 54, _ => simp
  | 55, _ => simp
  | 56, _ => simp
  | 57, _ => simp
  | 58, _ => simp
  | 59, _ => simp
  | 60, _ => simp
  | 61, _ => simp
  | 62, _ => simp
  | 63, _ => simp
  | n + 64, h => exact absurd h (by omega)
theorem own_r4 (q1 q2 q3 q4 q6 : Int64) (o : Nat) : own_v (own_b (own_put (own_put (own_put (own_put (own_put (own_put (fun _ => (0 : Int32)) 0 q6) 32 (q6 ^^^ (-1 : Int64))) o q1) (o + 8) q2) (o + 16) q3) (o + 24) q4) o) 32 4 = (XT.ushrL q1 (16 : Int32)) := by
  apply Int64.toBitVec_inj.mp
  rw [own_v_bv _ (own_bs q1 q2 q3 q4) 32 (fun i hi => own_bsel _ q1 q2 q3 q4 o i hi), own_l4]
  have e1 : (XT.ushrL q1 (16 : Int32)).toBitVec = q1.toBitVec >>> 16 := own_ushr q1 (k := 16) (by decide)
  rw [e1]
  exact own_t4 q1.toBitVec q2.toBitVec q3.toBitVec q4.toBitVec
theorem d1_0 : decode method_2_code 0 = .ok (.aload_n 0, 1) := by decide +kernel
theorem d1_1 : decode method_2_code 1 = .ok (.iload_n 1, 1) := by decide +kernel
theorem d1_2 : decode method_2_code 2 = .ok (.lload_n 2, 1) := by decide +kernel
theorem d1_3 : decode method_2_code 3 = .ok (.bipush 56, 2) := by decide +kernel
theorem d1_5 : decode method_2_code 5 = .ok (.lushr, 1) := by decide +kernel
theorem d1_6 : decode method_2_code 6 = .ok (.l2i, 1) := by decide +kernel
theorem d1_7 : decode method_2_code 7 = .ok (.i2b, 1) := by decide +kernel
theorem d1_8 : decode method_2_code 8 = .ok (.bastore, 1) := by decide +kernel
theorem d1_9 : decode method_2_code 9 = .ok (.aload_n 0, 1) := by decide +kernel
theorem d1_10 : decode method_2_code 10 = .ok (.iload_n 1, 1) := by decide +kernel
theorem d1_11 : decode method_2_code 11 = .ok (.iconst 1, 1) := by decide +kernel
theorem d1_12 : decode method_2_code 12 = .ok (.iadd, 1) := by decide +kernel
theorem d1_13 : decode method_2_code 13 = .ok (.lload_n 2, 1) := by decide +kernel
theorem d1_14 : decode method_2_code 14 = .ok (.bipush 48, 2) := by decide +kernel
theorem d1_16 : decode method_2_code 16 = .ok (.lushr, 1) := by decide +kernel
theorem d1_17 : decode method_2_code 17 = .ok (.l2i, 1) := by decide +kernel
theorem d1_18 : decode method_2_code 18 = .ok (.i2b, 1) := by decide +kernel
theorem d1_19 : decode method_2_code 19 = .ok (.bastore, 1) := by decide +kernel
theorem d1_20 : decode method_2_code 20 = .ok (.aload_n 0, 1) := by decide +kernel
theorem d1_21 : decode method_2_code 21 = .ok (.iload_n 1, 1) := by decide +kernel
theorem d1_22 : decode method_2_code 22 = .ok (.iconst 2, 1) := by decide +kernel
theorem d1_23 : decode method_2_code 23 = .ok (.iadd, 1) := by decide +kernel
theorem d1_24 : decode method_2_code 24 = .ok (.lload_n 2, 1) := by decide +kernel
theorem d1_25 : decode method_2_code 25 = .ok (.bipush 40, 2) := by decide +kernel
theorem d1_27 : decode method_2_code 27 = .ok (.lushr, 1) := by decide +kernel
theorem d1_28 : decode method_2_code 28 = .ok (.l2i, 1) := by decide +kernel
theorem d1_29 : decode method_2_code 29 = .ok (.i2b, 1) := by decide +kernel
theorem d1_30 : decode method_2_code 30 = .ok (.bastore, 1) := by decide +kernel
theorem d1_31 : decode method_2_code 31 = .ok (.aload_n 0, 1) := by decide +kernel
theorem d1_32 : decode method_2_code 32 = .ok (.iload_n 1, 1) := by decide +kernel
theorem d1_33 : decode method_2_code 33 = .ok (.iconst 3, 1) := by decide +kernel
theorem d1_34 : decode method_2_code 34 = .ok (.iadd, 1) := by decide +kernel
theorem d1_35 : decode method_2_code 35 = .ok (.lload_n 2, 1) := by decide +kernel
theorem d1_36 : decode method_2_code 36 = .ok (.bipush 32, 2) := by decide +kernel
theorem d1_38 : decode method_2_code 38 = .ok (.lushr, 1) := by decide +kernel
theorem d1_39 : decode method_2_code 39 = .ok (.l2i, 1) := by decide +kernel
theorem d1_40 : decode method_2_code 40 = .ok (.i2b, 1) := by decide +kernel
theorem d1_41 : decode method_2_code 41 = .ok (.bastore, 1) := by decide +kernel
theorem d1_42 : decode method_2_code 42 = .ok (.aload_n 0, 1) := by decide +kernel
theorem d1_43 : decode method_2_code 43 = .ok (.iload_n 1, 1) := by decide +kernel
theorem d1_44 : decode method_2_code 44 = .ok (.iconst 4, 1) := by decide +kernel
theorem d1_45 : decode method_2_code 45 = .ok (.iadd, 1) := by decide +kernel
theorem d1_46 : decode method_2_code 46 = .ok (.lload_n 2, 1) := by decide +kernel
theorem d1_47 : decode method_2_code 47 = .ok (.bipush 24, 2) := by decide +kernel
theorem d1_49 : decode method_2_code 49 = .ok (.lushr, 1) := by decide +kernel
theorem d1_50 : decode method_2_code 50 = .ok (.l2i, 1) := by decide +kernel
theorem d1_51 : decode method_2_code 51 = .ok (.i2b, 1) := by decide +kernel
theorem d1_52 : decode method_2_code 52 = .ok (.bastore, 1) := by decide +kernel
theorem d1_53 : decode method_2_code 53 = .ok (.aload_n 0, 1) := by decide +kernel
theorem d1_54 : decode method_2_code 54 = .ok (.iload_n 1, 1) := by decide +kernel
theorem d1_55 : decode method_2_code 55 = .ok (.iconst 5, 1) := by decide +kernel
theorem d1_56 : decode method_2_code 56 = .ok (.iadd, 1) := by decide +kernel
theorem d1_57 : decode method_2_code 57 = .ok (.lload_n 2, 1) := by decide +kernel
theorem d1_58 : decode method_2_code 58 = .ok (.bipush 16, 2) := by decide +kernel
theorem d1_60 : decode method_2_code 60 = .ok (.lushr, 1) := by decide +kernel
theorem d1_61 : decode method_2_code 61 = .ok (.l2i, 1) := by decide +kernel
theorem d1_62 : decode method_2_code 62 = .ok (.i2b, 1) := by decide +kernel
theorem d1_63 : decode method_2_code 63 = .ok (.bastore, 1) := by decide +kernel
theorem d1_64 : decode method_2_code 64 = .ok (.aload_n 0, 1) := by decide +kernel
theorem d1_65 : decode method_2_code 65 = .ok (.iload_n 1, 1) := by decide +kernel
theorem d1_66 : decode method_2_code 66 = .ok (.bipush 6, 2) := by decide +kernel
theorem d1_68 : decode method_2_code 68 = .ok (.iadd, 1) := by decide +kernel
theorem d1_69 : decode method_2_code 69 = .ok (.lload_n 2, 1) := by decide +kernel
theorem d1_70 : decode method_2_code 70 = .ok (.bipush 8, 2) := by decide +kernel
theorem d1_72 : decode method_2_code 72 = .ok (.lushr, 1) := by decide +kernel
theorem d1_73 : decode method_2_code 73 = .ok (.l2i, 1) := by decide +kernel
theorem d1_74 : decode method_2_code 74 = .ok (.i2b, 1) := by decide +kernel
theorem d1_75 : decode method_2_code 75 = .ok (.bastore, 1) := by decide +kernel
theorem d1_76 : decode method_2_code 76 = .ok (.aload_n 0, 1) := by decide +kernel
theorem d1_77 : decode method_2_code 77 = .ok (.iload_n 1, 1) := by decide +kernel
theorem d1_78 : decode method_2_code 78 = .ok (.bipush 7, 2) := by decide +kernel
theorem d1_80 : decode method_2_code 80 = .ok (.iadd, 1) := by decide +kernel
theorem d1_81 : decode method_2_code 81 = .ok (.lload_n 2, 1) := by decide +kernel
theorem d1_82 : decode method_2_code 82 = .ok (.l2i, 1) := by decide +kernel
theorem d1_83 : decode method_2_code 83 = .ok (.i2b, 1) := by decide +kernel
theorem d1_84 : decode method_2_code 84 = .ok (.bastore, 1) := by decide +kernel
theorem d1_85 : decode method_2_code 85 = .ok (.return_, 1) := by decide +kernel
theorem pn_1 : plainName "ownclaim/jose/LimbsFromBytesPinLaw" = true := by first | (simp [plainName, overriddenIn]; done) | decide +kernel
theorem ef_1 (m : MethodId) (x0 : Addr) (x1 : Int32) (x2 : Int64) : entryFrame m #[(.ref x0), (.int x1), (.long x2)] 4 = mkF m 0 #[.val (.ref x0), .val (.int x1), .val (.long x2), .second] [] := by first | (simp [entryFrame, mkF, argsToLocals, Value.category]; done) | rfl
def Q1 (Z : State) (a1 : Addr) (q : Nat) (q3 : Int64) (B : Nat → Int32) (h0 : Heap) (n0 : Nat) (v : Option Value) (h : Heap) (L : List Loc) : Prop := v = none ∧ Fr n0 L ∧ Keep h0 h [a1] ∧ AF Z h a1 .byte 40 (fun j => .int (own_put B q q3 j))
set_option maxRecDepth 65536 in
set_option maxHeartbeats 40000000 in
theorem rm1 (l : Launch) (Z : State) (a0 : Array Value) (hw : ∀ d ∈ tables_1, d.before a0 Z = true) (ws : List Jvm.Cond) (a1 : Addr) (p2 : Int32) (q3 : Int64) (q : Nat) (B : Nat → Int32) (h0 : Heap) (n0 : Nat) (Z0 : n0 ≤ h0.size) (g_a1 : n0 ≤ a1) (hp : p2 = Int32.ofNat q) (hq : q + 8 ≤ 40) (V : AF Z h0 a1 .byte 40 (fun j => .int (B j))) :
    MetFree l (⟨"ownclaim/jose/LimbsFromBytesPinLaw", "put", "([BIJ)V"⟩ : MethodName) (head1 (Jvm.Cond.code (⟨"ownclaim/jose/LimbsFromBytesPinLaw", "put", "([BIJ)V"⟩ : MethodName) method_2_code 4 none :: ws) ({ frames := 0, cells := 0, slots := 0, locals := 0 } : Room)) (fun a U => a = #[(.ref a1), (.int p2), (.long q3)] ∧ Z.Warmed39 U.vm ∧ U.heap = h0) (fun _ _ _ _ _ => True) (fun _ U o U' => ∃ v L, o = .returned v ∧ Q1 Z a1 q q3 B h0 n0 v U'.heap L ∧ FrameEnd U o U' L ({ frames := 0, cells := 0, slots := 0, locals := 0 } : Room).cells ({ frames := 0, cells := 0, slots := 0, locals := 0 } : Room).slots) := by
  refine MetFree.of_bodySF (plainFor_of_name pn_1) hisR ?_
  intro p e s m args below meth c s₁ Bd hml0 hP hK
  obtain ⟨rfl, hZ, hh0⟩ := hP
  have hx := Bd.exec
  have hby := Bd.bytes
  have hml : c.maxLocals = 4 := hml0
  have hown : s.vm.findClass "ownclaim/jose/LimbsFromBytesPinLaw" = some m.cls := findClass_of_methodNamed Bd.named
  have X0 : Stand p l e ({ frames := 0, cells := 0, slots := 0, locals := 0 } : Room) s m #[(.ref a1), (.int p2), (.long q3)] below meth c s₁ [] 0 0 := Stand.of_body Bd
  have e0 : s₁.heap = h0 := by rw [← hh0, Bd.state]; rfl
  have N0 := Fr.nil n0
  have pre0 : ∀ t, Steps p.tables e below (s₁.setTop (mkF m 0 #[.val (.ref a1), .val (.int p2), .val (.long q3), .second] [])) t → Steps p.tables e below (s₁.setTop (entryFrame m #[(.ref a1), (.int p2), (.long q3)] 4)) t := fun t k => castTop (ef_1 m a1 p2 q3) k
  have ha1 : p2 + (1 : Int32) = Int32.ofNat (q + 1) := by rw [hp]; exact own_add q 1
  have ha2 : p2 + (2 : Int32) = Int32.ofNat (q + 2) := by rw [hp]; exact own_add q 2
  have ha3 : p2 + (3 : Int32) = Int32.ofNat (q + 3) := by rw [hp]; exact own_add q 3
  have ha4 : p2 + (4 : Int32) = Int32.ofNat (q + 4) := by rw [hp]; exact own_add q 4
  have ha5 : p2 + (5 : Int32) = Int32.ofNat (q + 5) := by rw [hp]; exact own_add q 5
  have ha6 : p2 + (6 : Int32) = Int32.ofNat (q + 6) := by rw [hp]; exact own_add q 6
  have ha7 : p2 + (7 : Int32) = Int32.ofNat (q + 7) := by rw [hp]; exact own_add q 7
  obtain ⟨c1, Ar1, S1, H1⟩ := V
  obtain ⟨T1, h1, X1, e1, W1, st1⟩ := stB X0 hx hZ e0 Ar1 (j := p2) (by rw [S1, hp]; exact within rfl (by omega) (by omega)) (g := (mkF m 8 #[.val (.ref a1), .val (.int p2), .val (.long q3), .second] [(.int (((XT.ushrL q3 (56 : Int32)).toInt32).toInt8.toInt32)), (.int p2), (.ref a1)])) rfl rfl (hb hby d1_8)
  have N1 := Fr.snoc X1 N0 g_a1
  have cl1 : (Int32.ofNat q).toNatClampNeg = q := clamp_of rfl (by omega)
  rw [hp, cl1] at W1
  have V1 := AF.set (⟨c1, Ar1, S1, H1⟩ : AF Z h0 a1 .byte 40 _) W1
  have K1 : Keep h0 h1 [a1] := (Keep.refl h0 [a1]).wr W1 (Or.inl (List.mem_of_getElem? (i := 0) rfl))
  obtain ⟨c2, Ar2, S2, H2⟩ := V1
  obtain ⟨T2, h2, X2, e2, W2, st2⟩ := stB X1 hx hZ e1 Ar2 (j := (Int32.ofNat (q + 1))) (by rw [S2]; exact within rfl (by omega) (by omega)) (g := (mkF m 19 #[.val (.ref a1), .val (.int p2), .val (.long q3), .second] [(.int (((XT.ushrL q3 (48 : Int32)).toInt32).toInt8.toInt32)), (.int (Int32.ofNat (q + 1))), (.ref a1)])) rfl rfl (hb hby d1_19)
  have N2 := Fr.snoc X2 N1 g_a1
  have cl2 : (Int32.ofNat (q + 1)).toNatClampNeg = q + 1 := clamp_of rfl (by omega)
  rw [cl2] at W2
  have V2 := AF.set (⟨c2, Ar2, S2, H2⟩ : AF Z h1 a1 .byte 40 _) W2
  have K2 : Keep h0 h2 [a1] := K1.wr W2 (Or.inl (List.mem_of_getElem? (i := 0) rfl))
  obtain ⟨c3, Ar3, S3, H3⟩ := V2
  obtain ⟨T3, h3, X3, e3, W3, st3⟩ := stB X2 hx hZ e2 Ar3 (j := (Int32.ofNat (q + 2))) (by rw [S3]; exact within rfl (by omega) (by omega)) (g := (mkF m 30 #[.val (.ref a1), .val (.int p2), .val (.long q3), .second] [(.int (((XT.ushrL q3 (40 : Int32)).toInt32).toInt8.toInt32)), (.int (Int32.ofNat (q + 2))), (.ref a1)])) rfl rfl (hb hby d1_30)
  have N3 := Fr.snoc X3 N2 g_a1
  have cl3 : (Int32.ofNat (q + 2)).toNatClampNeg = q + 2 := clamp_of rfl (by omega)
  rw [cl3] at W3
  have V3 := AF.set (⟨c3, Ar3, S3, H3⟩ : AF Z h2 a1 .byte 40 _) W3
  have K3 : Keep h0 h3 [a1] := K2.wr W3 (Or.inl (List.mem_of_getElem? (i := 0) rfl))
  obtain ⟨c4, Ar4, S4, H4⟩ := V3
  obtain ⟨T4, h4, X4, e4, W4, st4⟩ := stB X3 hx hZ e3 Ar4 (j := (Int32.ofNat (q + 3))) (by rw [S4]; exact within rfl (by omega) (by omega)) (g := (mkF m 41 #[.val (.ref a1), .val (.int p2), .val (.long q3), .second] [(.int (((XT.ushrL q3 (32 : Int32)).toInt32).toInt8.toInt32)), (.int (Int32.ofNat (q + 3))), (.ref a1)])) rfl rfl (hb hby d1_41)
  have N4 := Fr.snoc X4 N3 g_a1
  have cl4 : (Int32.ofNat (q + 3)).toNatClampNeg = q + 3 := clamp_of rfl (by omega)
  rw [cl4] at W4
  have V4 := AF.set (⟨c4, Ar4, S4, H4⟩ : AF Z h3 a1 .byte 40 _) W4
  have K4 : Keep h0 h4 [a1] := K3.wr W4 (Or.inl (List.mem_of_getElem? (i := 0) rfl))
  obtain ⟨c5, Ar5, S5, H5⟩ := V4
  obtain ⟨T5, h5, X5, e5, W5, st5⟩ := stB X4 hx hZ e4 Ar5 (j := (Int32.ofNat (q + 4))) (by rw [S5]; exact within rfl (by omega) (by omega)) (g := (mkF m 52 #[.val (.ref a1), .val (.int p2), .val (.long q3), .second] [(.int (((XT.ushrL q3 (24 : Int32)).toInt32).toInt8.toInt32)), (.int (Int32.ofNat (q + 4))), (.ref a1)])) rfl rfl (hb hby d1_52)
  have N5 := Fr.snoc X5 N4 g_a1
  have cl5 : (Int32.ofNat (q + 4)).toNatClampNeg = q + 4 := clamp_of rfl (by omega)
  rw [cl5] at W5
  have V5 := AF.set (⟨c5, Ar5, S5, H5⟩ : AF Z h4 a1 .byte 40 _) W5
  have K5 : Keep h0 h5 [a1] := K4.wr W5 (Or.inl (List.mem_of_getElem? (i := 0) rfl))
  obtain ⟨c6, Ar6, S6, H6⟩ := V5
  obtain ⟨T6, h6, X6, e6, W6, st6⟩ := stB X5 hx hZ e5 Ar6 (j := (Int32.ofNat (q + 5))) (by rw [S6]; exact within rfl (by omega) (by omega)) (g := (mkF m 63 #[.val (.ref a1), .val (.int p2), .val (.long q3), .second] [(.int (((XT.ushrL q3 (16 : Int32)).toInt32).toInt8.toInt32)), (.int (Int32.ofNat (q + 5))), (.ref a1)])) rfl rfl (hb hby d1_63)
  have N6 := Fr.snoc X6 N5 g_a1
  have cl6 : (Int32.ofNat (q + 5)).toNatClampNeg = q + 5 := clamp_of rfl (by omega)
  rw [cl6] at W6
  have V6 := AF.set (⟨c6, Ar6, S6, H6⟩ : AF Z h5 a1 .byte 40 _) W6
  have K6 : Keep h0 h6 [a1] := K5.wr W6 (Or.inl (List.mem_of_getElem? (i := 0) rfl))
  obtain ⟨c7, Ar7, S7, H7⟩ := V6
  obtain ⟨T7, h7, X7, e7, W7, st7⟩ := stB X6 hx hZ e6 Ar7 (j := (Int32.ofNat (q + 6))) (by rw [S7]; exact within rfl (by omega) (by omega)) (g := (mkF m 75 #[.val (.ref a1), .val (.int p2), .val (.long q3), .second] [(.int (((XT.ushrL q3 (8 : Int32)).toInt32).toInt8.toInt32)), (.int (Int32.ofNat (q + 6))), (.ref a1)])) rfl rfl (hb hby d1_75)
  have N7 := Fr.snoc X7 N6 g_a1
  have cl7 : (Int32.ofNat (q + 6)).toNatClampNeg = q + 6 := clamp_of rfl (by omega)
  rw [cl7] at W7
  have V7 := AF.set (⟨c7, Ar7, S7, H7⟩ : AF Z h6 a1 .byte 40 _) W7
  have K7 : Keep h0 h7 [a1] := K6.wr W7 (Or.inl (List.mem_of_getElem? (i := 0) rfl))
  obtain ⟨c8, Ar8, S8, H8⟩ := V7
  obtain ⟨T8, h8, X8, e8, W8, st8⟩ := stB X7 hx hZ e7 Ar8 (j := (Int32.ofNat (q + 7))) (by rw [S8]; exact within rfl (by omega) (by omega)) (g := (mkF m 84 #[.val (.ref a1), .val (.int p2), .val (.long q3), .second] [(.int ((q3.toInt32).toInt8.toInt32)), (.int (Int32.ofNat (q + 7))), (.ref a1)])) rfl rfl (hb hby d1_84)
  have N8 := Fr.snoc X8 N7 g_a1
  have cl8 : (Int32.ofNat (q + 7)).toNatClampNeg = q + 7 := clamp_of rfl (by omega)
  rw [cl8] at W8
  have V8 := AF.set (⟨c8, Ar8, S8, H8⟩ : AF Z h7 a1 .byte 40 _) W8
  have K8 : Keep h0 h8 [a1] := K7.wr W8 (Or.inl (List.mem_of_getElem? (i := 0) rfl))
  obtain ⟨fs, hr, hrun, hended, hW, hsame⟩ := X8.leave (v := none) (fun _ => rfl)
  refine ⟨_, _, pre0 _ ?_, hrun, hended, _, _, rfl, ?_, ⟨_, rfl⟩, hW, hsame.mono (by decide) (by decide)⟩
  · show Steps p.tables e below (s₁.setTop (mkF m 0 #[.val (.ref a1), .val (.int p2), .val (.long q3), .second] [])) _
    refine XS.aloadN X0.here hx rfl (hb hby d1_0) rfl rfl ?_
    show Steps p.tables e below (s₁.setTop (mkF m 1 #[.val (.ref a1), .val (.int p2), .val (.long q3), .second] [(.ref a1)])) _
    refine XS.iloadN X0.here hx rfl (hb hby d1_1) rfl ?_
    show Steps p.tables e below (s₁.setTop (mkF m 2 #[.val (.ref a1), .val (.int p2), .val (.long q3), .second] [(.int p2), (.ref a1)])) _
    refine XS.lloadN X0.here hx rfl (hb hby d1_2) rfl ?_
    show Steps p.tables e below (s₁.setTop (mkF m 3 #[.val (.ref a1), .val (.int p2), .val (.long q3), .second] [(.long q3), (.int p2), (.ref a1)])) _
    refine XS.bipush X0.here hx rfl (hb hby d1_3) ?_
    show Steps p.tables e below (s₁.setTop (mkF m 5 #[.val (.ref a1), .val (.int p2), .val (.long q3), .second] [(.int (56 : Int32)), (.long q3), (.int p2), (.ref a1)])) _
    refine XT.lushr X0.here hx rfl (hb hby d1_5) rfl ?_
    show Steps p.tables e below (s₁.setTop (mkF m 6 #[.val (.ref a1), .val (.int p2), .val (.long q3), .second] [(.long (XT.ushrL q3 (56 : Int32))), (.int p2), (.ref a1)])) _
    refine XS.l2i X0.here hx rfl (hb hby d1_6) rfl ?_
    show Steps p.tables e below (s₁.setTop (mkF m 7 #[.val (.ref a1), .val (.int p2), .val (.long q3), .second] [(.int ((XT.ushrL q3 (56 : Int32)).toInt32)), (.int p2), (.ref a1)])) _
    refine XS.i2b X0.here hx rfl (hb hby d1_7) rfl ?_
    show Steps p.tables e below (s₁.setTop (mkF m 8 #[.val (.ref a1), .val (.int p2), .val (.long q3), .second] [(.int (((XT.ushrL q3 (56 : Int32)).toInt32).toInt8.toInt32)), (.int p2), (.ref a1)])) _
    refine st1 _ ?_
    show Steps p.tables e below (T1.setTop (mkF m 9 #[.val (.ref a1), .val (.int p2), .val (.long q3), .second] [])) _
    refine XS.aloadN X1.here hx rfl (hb hby d1_9) rfl rfl ?_
    show Steps p.tables e below (T1.setTop (mkF m 10 #[.val (.ref a1), .val (.int p2), .val (.long q3), .second] [(.ref a1)])) _
    refine XS.iloadN X1.here hx rfl (hb hby d1_10) rfl ?_
    show Steps p.tables e below (T1.setTop (mkF m 11 #[.val (.ref a1), .val (.int p2), .val (.long q3), .second] [(.int p2), (.ref a1)])) _
    refine XS.iconst X1.here hx rfl (hb hby d1_11) ?_
    show Steps p.tables e below (T1.setTop (mkF m 12 #[.val (.ref a1), .val (.int p2), .val (.long q3), .second] [(.int (1 : Int32)), (.int p2), (.ref a1)])) _
    refine XS.iadd X1.here hx rfl (hb hby d1_12) rfl ?_
    show Steps p.tables e below (T1.setTop (mkF m 13 #[.val (.ref a1), .val (.int p2), .val (.long q3), .second] [(.int (p2 + (1 : Int32))), (.ref a1)])) _
    rw [ha1]
    show Steps p.tables e below (T1.setTop (mkF m 13 #[.val (.ref a1), .val (.int p2), .val (.long q3), .second] [(.int (Int32.ofNat (q + 1))), (.ref a1)])) _
    refine XS.lloadN X1.here hx rfl (hb hby d1_13) rfl ?_
    show Steps p.tables e below (T1.setTop (mkF m 14 #[.val (.ref a1), .val (.int p2), .val (.long q3), .second] [(.long q3), (.int (Int32.ofNat (q + 1))), (.ref a1)])) _
    refine XS.bipush X1.here hx rfl (hb hby d1_14) ?_
    show Steps p.tables e below (T1.setTop (mkF m 16 #[.val (.ref a1), .val (.int p2), .val (.long q3), .second] [(.int (48 : Int32)), (.long q3), (.int (Int32.ofNat (q + 1))), (.ref a1)])) _
    refine XT.lushr X1.here hx rfl (hb hby d1_16) rfl ?_
    show Steps p.tables e below (T1.setTop (mkF m 17 #[.val (.ref a1), .val (.int p2), .val (.long q3), .second] [(.long (XT.ushrL q3 (48 : Int32))), (.int (Int32.ofNat (q + 1))), (.ref a1)])) _
    refine XS.l2i X1.here hx rfl (hb hby d1_17) rfl ?_
    show Steps p.tables e below (T1.setTop (mkF m 18 #[.val (.ref a1), .val (.int p2), .val (.long q3), .second] [(.int ((XT.ushrL q3 (48 : Int32)).toInt32)), (.int (Int32.ofNat (q + 1))), (.ref a1)])) _
    refine XS.i2b X1.here hx rfl (hb hby d1_18) rfl ?_
    show Steps p.tables e below (T1.setTop (mkF m 19 #[.val (.ref a1), .val (.int p2), .val (.long q3), .second] [(.int (((XT.ushrL q3 (48 : Int32)).toInt32).toInt8.toInt32)), (.int (Int32.ofNat (q + 1))), (.ref a1)])) _
    refine st2 _ ?_
    show Steps p.tables e below (T2.setTop (mkF m 20 #[.val (.ref a1), .val (.int p2), .val (.long q3), .second] [])) _
    refine XS.aloadN X2.here hx rfl (hb hby d1_20) rfl rfl ?_
    show Steps p.tables e below (T2.setTop (mkF m 21 #[.val (.ref a1), .val (.int p2), .val (.long q3), .second] [(.ref a1)])) _
    refine XS.iloadN X2.here hx rfl (hb hby d1_21) rfl ?_
    show Steps p.tables e below (T2.setTop (mkF m 22 #[.val (.ref a1), .val (.int p2), .val (.long q3), .second] [(.int p2), (.ref a1)])) _
    refine XS.iconst X2.here hx rfl (hb hby d1_22) ?_
    show Steps p.tables e below (T2.setTop (mkF m 23 #[.val (.ref a1), .val (.int p2), .val (.long q3), .second] [(.int (2 : Int32)), (.int p2), (.ref a1)])) _
    refine XS.iadd X2.here hx rfl (hb hby d1_23) rfl ?_
    show Steps p.tables e below (T2.setTop (mkF m 24 #[.val (.ref a1), .val (.int p2), .val (.long q3), .second] [(.int (p2 + (2 : Int32))), (.ref a1)])) _
    rw [ha2]
    show Steps p.tables e below (T2.setTop (mkF m 24 #[.val (.ref a1), .val (.int p2), .val (.long q3), .second] [(.int (Int32.ofNat (q + 2))), (.ref a1)])) _
    refine XS.lloadN X2.here hx rfl (hb hby d1_24) rfl ?_
    show Steps p.tables e below (T2.setTop (mkF m 25 #[.val (.ref a1), .val (.int p2), .val (.long q3), .second] [(.long q3), (.int (Int32.ofNat (q + 2))), (.ref a1)])) _
    refine XS.bipush X2.here hx rfl (hb hby d1_25) ?_
    show Steps p.tables e below (T2.setTop (mkF m 27 #[.val (.ref a1), .val (.int p2), .val (.long q3), .second] [(.int (40 : Int32)), (.long q3), (.int (Int32.ofNat (q + 2))), (.ref a1)])) _
    refine XT.lushr X2.here hx rfl (hb hby d1_27) rfl ?_
    show Steps p.tables e below (T2.setTop (mkF m 28 #[.val (.ref a1), .val (.int p2), .val (.long q3), .second] [(.long (XT.ushrL q3 (40 : Int32))), (.int (Int32.ofNat (q + 2))), (.ref a1)])) _
    refine XS.l2i X2.here hx rfl (hb hby d1_28) rfl ?_
    show Steps p.tables e below (T2.setTop (mkF m 29 #[.val (.ref a1), .val (.int p2), .val (.long q3), .second] [(.int ((XT.ushrL q3 (40 : Int32)).toInt32)), (.int (Int32.ofNat (q + 2))), (.ref a1)])) _
    refine XS.i2b X2.here hx rfl (hb hby d1_29) rfl ?_
    show Steps p.tables e below (T2.setTop (mkF m 30 #[.val (.ref a1), .val (.int p2), .val (.long q3), .second] [(.int (((XT.ushrL q3 (40 : Int32)).toInt32).toInt8.toInt32)), (.int (Int32.ofNat (q + 2))), (.ref a1)])) _
    refine st3 _ ?_
    show Steps p.tables e below (T3.setTop (mkF m 31 #[.val (.ref a1), .val (.int p2), .val (.long q3), .second] [])) _
    refine XS.aloadN X3.here hx rfl (hb hby d1_31) rfl rfl ?_
    show Steps p.tables e below (T3.setTop (mkF m 32 #[.val (.ref a1), .val (.int p2), .val (.long q3), .second] [(.ref a1)])) _
    refine XS.iloadN X3.here hx rfl (hb hby d1_32) rfl ?_
    show Steps p.tables e below (T3.setTop (mkF m 33 #[.val (.ref a1), .val (.int p2), .val (.long q3), .second] [(.int p2), (.ref a1)])) _
    refine XS.iconst X3.here hx rfl (hb hby d1_33) ?_
    show Steps p.tables e below (T3.setTop (mkF m 34 #[.val (.ref a1), .val (.int p2), .val (.long q3), .second] [(.int (3 : Int32)), (.int p2), (.ref a1)])) _
    refine XS.iadd X3.here hx rfl (hb hby d1_34) rfl ?_
    show Steps p.tables e below (T3.setTop (mkF m 35 #[.val (.ref a1), .val (.int p2), .val (.long q3), .second] [(.int (p2 + (3 : Int32))), (.ref a1)])) _
    rw [ha3]
    show Steps p.tables e below (T3.setTop (mkF m 35 #[.val (.ref a1), .val (.int p2), .val (.long q3), .second] [(.int (Int32.ofNat (q + 3))), (.ref a1)])) _
    refine XS.lloadN X3.here hx rfl (hb hby d1_35) rfl ?_
    show Steps p.tables e below (T3.setTop (mkF m 36 #[.val (.ref a1), .val (.int p2), .val (.long q3), .second] [(.long q3), (.int (Int32.ofNat (q + 3))), (.ref a1)])) _
    refine XS.bipush X3.here hx rfl (hb hby d1_36) ?_
    show Steps p.tables e below (T3.setTop (mkF m 38 #[.val (.ref a1), .val (.int p2), .val (.long q3), .second] [(.int (32 : Int32)), (.long q3), (.int (Int32.ofNat (q + 3))), (.ref a1)])) _
    refine XT.lushr X3.here hx rfl (hb hby d1_38) rfl ?_
    show Steps p.tables e below (T3.setTop (mkF m 39 #[.val (.ref a1), .val (.int p2), .val (.long q3), .second] [(.long (XT.ushrL q3 (32 : Int32))), (.int (Int32.ofNat (q + 3))), (.ref a1)])) _
    refine XS.l2i X3.here hx rfl (hb hby d1_39) rfl ?_
    show Steps p.tables e below (T3.setTop (mkF m 40 #[.val (.ref a1), .val (.int p2), .val (.long q3), .second] [(.int ((XT.ushrL q3 (32 : Int32)).toInt32)), (.int (Int32.ofNat (q + 3))), (.ref a1)])) _
    refine XS.i2b X3.here hx rfl (hb hby d1_40) rfl ?_
    show Steps p.tables e below (T3.setTop (mkF m 41 #[.val (.ref a1), .val (.int p2), .val (.long q3), .second] [(.int (((XT.ushrL q3 (32 : Int32)).toInt32).toInt8.toInt32)), (.int (Int32.ofNat (q + 3))), (.ref a1)])) _
    refine st4 _ ?_
    show Steps p.tables e below (T4.setTop (mkF m 42 #[.val (.ref a1), .val (.int p2), .val (.long q3), .second] [])) _
    refine XS.aloadN X4.here hx rfl (hb hby d1_42) rfl rfl ?_
    show Steps p.tables e below (T4.setTop (mkF m 43 #[.val (.ref a1), .val (.int p2), .val (.long q3), .second] [(.ref a1)])) _
    refine XS.iloadN X4.here hx rfl (hb hby d1_43) rfl ?_
    show Steps p.tables e below (T4.setTop (mkF m 44 #[.val (.ref a1), .val (.int p2), .val (.long q3), .second] [(.int p2), (.ref a1)])) _
    refine XS.iconst X4.here hx rfl (hb hby d1_44) ?_
    show Steps p.tables e below (T4.setTop (mkF m 45 #[.val (.ref a1), .val (.int p2), .val (.long q3), .second] [(.int (4 : Int32)), (.int p2), (.ref a1)])) _
    refine XS.iadd X4.here hx rfl (hb hby d1_45) rfl ?_
    show Steps p.tables e below (T4.setTop (mkF m 46 #[.val (.ref a1), .val (.int p2), .val (.long q3), .second] [(.int (p2 + (4 : Int32))), (.ref a1)])) _
    rw [ha4]
    show Steps p.tables e below (T4.setTop (mkF m 46 #[.val (.ref a1), .val (.int p2), .val (.long q3), .second] [(.int (Int32.ofNat (q + 4))), (.ref a1)])) _
    refine XS.lloadN X4.here hx rfl (hb hby d1_46) rfl ?_
    show Steps p.tables e below (T4.setTop (mkF m 47 #[.val (.ref a1), .val (.int p2), .val (.long q3), .second] [(.long q3), (.int (Int32.ofNat (q + 4))), (.ref a1)])) _
    refine XS.bipush X4.here hx rfl (hb hby d1_47) ?_
    show Steps p.tables e below (T4.setTop (mkF m 49 #[.val (.ref a1), .val (.int p2), .val (.long q3), .second] [(.int (24 : Int32)), (.long q3), (.int (Int32.ofNat (q + 4))), (.ref a1)])) _
    refine XT.lushr X4.here hx rfl (hb hby d1_49) rfl ?_
    show Steps p.tables e below (T4.setTop (mkF m 50 #[.val (.ref a1), .val (.int p2), .val (.long q3), .second] [(.long (XT.ushrL q3 (24 : Int32))), (.int (Int32.ofNat (q + 4))), (.ref a1)])) _
    refine XS.l2i X4.here hx rfl (hb hby d1_50) rfl ?_
    show Steps p.tables e below (T4.setTop (mkF m 51 #[.val (.ref a1), .val (.int p2), .val (.long q3), .second] [(.int ((XT.ushrL q3 (24 : Int32)).toInt32)), (.int (Int32.ofNat (q + 4))), (.ref a1)])) _
    refine XS.i2b X4.here hx rfl (hb hby d1_51) rfl ?_
    show Steps p.tables e below (T4.setTop (mkF m 52 #[.val (.ref a1), .val (.int p2), .val (.long q3), .second] [(.int (((XT.ushrL q3 (24 : Int32)).toInt32).toInt8.toInt32)), (.int (Int32.ofNat (q + 4))), (.ref a1)])) _
    refine st5 _ ?_
    show Steps p.tables e below (T5.setTop (mkF m 53 #[.val (.ref a1), .val (.int p2), .val (.long q3), .second] [])) _
    refine XS.aloadN X5.here hx rfl (hb hby d1_53) rfl rfl ?_
    show Steps p.tables e below (T5.setTop (mkF m 54 #[.val (.ref a1), .val (.int p2), .val (.long q3), .second] [(.ref a1)])) _
    refine XS.iloadN X5.here hx rfl (hb hby d1_54) rfl ?_
    show Steps p.tables e below (T5.setTop (mkF m 55 #[.val (.ref a1), .val (.int p2), .val (.long q3), .second] [(.int p2), (.ref a1)])) _
    refine XS.iconst X5.here hx rfl (hb hby d1_55) ?_
    show Steps p.tables e below (T5.setTop (mkF m 56 #[.val (.ref a1), .val (.int p2), .val (.long q3), .second] [(.int (5 : Int32)), (.int p2), (.ref a1)])) _
    refine XS.iadd X5.here hx rfl (hb hby d1_56) rfl ?_
    show Steps p.tables e below (T5.setTop (mkF m 57 #[.val (.ref a1), .val (.int p2), .val (.long q3), .second] [(.int (p2 + (5 : Int32))), (.ref a1)])) _
    rw [ha5]
    show Steps p.tables e below (T5.setTop (mkF m 57 #[.val (.ref a1), .val (.int p2), .val (.long q3), .second] [(.int (Int32.ofNat (q + 5))), (.ref a1)])) _
    refine XS.lloadN X5.here hx rfl (hb hby d1_57) rfl ?_
    show Steps p.tables e below (T5.setTop (mkF m 58 #[.val (.ref a1), .val (.int p2), .val (.long q3), .second] [(.long q3), (.int (Int32.ofNat (q + 5))), (.ref a1)])) _
    refine XS.bipush X5.here hx rfl (hb hby d1_58) ?_
    show Steps p.tables e below (T5.setTop (mkF m 60 #[.val (.ref a1), .val (.int p2), .val (.long q3), .second] [(.int (16 : Int32)), (.long q3), (.int (Int32.ofNat (q + 5))), (.ref a1)])) _
    refine XT.lushr X5.here hx rfl (hb hby d1_60) rfl ?_
    show Steps p.tables e below (T5.setTop (mkF m 61 #[.val (.ref a1), .val (.int p2), .val (.long q3), .second] [(.long (XT.ushrL q3 (16 : Int32))), (.int (Int32.ofNat (q + 5))), (.ref a1)])) _
    refine XS.l2i X5.here hx rfl (hb hby d1_61) rfl ?_
    show Steps p.tables e below (T5.setTop (mkF m 62 #[.val (.ref a1), .val (.int p2), .val (.long q3), .second] [(.int ((XT.ushrL q3 (16 : Int32)).toInt32)), (.int (Int32.ofNat (q + 5))), (.ref a1)])) _
    refine XS.i2b X5.here hx rfl (hb hby d1_62) rfl ?_
    show Steps p.tables e below (T5.setTop (mkF m 63 #[.val (.ref a1), .val (.int p2), .val (.long q3), .second] [(.int (((XT.ushrL q3 (16 : Int32)).toInt32).toInt8.toInt32)), (.int (Int32.ofNat (q + 5))), (.ref a1)])) _
    refine st6 _ ?_
    show Steps p.tables e below (T6.setTop (mkF m 64 #[.val (.ref a1), .val (.int p2), .val (.long q3), .second] [])) _
    refine XS.aloadN X6.here hx rfl (hb hby d1_64) rfl rfl ?_
    show Steps p.tables e below (T6.setTop (mkF m 65 #[.val (.ref a1), .val (.int p2), .val (.long q3), .second] [(.ref a1)])) _
    refine XS.iloadN X6.here hx rfl (hb hby d1_65) rfl ?_
    show Steps p.tables e below (T6.setTop (mkF m 66 #[.val (.ref a1), .val (.int p2), .val (.long q3), .second] [(.int p2), (.ref a1)])) _
    refine XS.bipush X6.here hx rfl (hb hby d1_66) ?_
    show Steps p.tables e below (T6.setTop (mkF m 68 #[.val (.ref a1), .val (.int p2), .val (.long q3), .second] [(.int (6 : Int32)), (.int p2), (.ref a1)])) _
    refine XS.iadd X6.here hx rfl (hb hby d1_68) rfl ?_
    show Steps p.tables e below (T6.setTop (mkF m 69 #[.val (.ref a1), .val (.int p2), .val (.long q3), .second] [(.int (p2 + (6 : Int32))), (.ref a1)])) _
    rw [ha6]
    show Steps p.tables e below (T6.setTop (mkF m 69 #[.val (.ref a1), .val (.int p2), .val (.long q3), .second] [(.int (Int32.ofNat (q + 6))), (.ref a1)])) _
    refine XS.lloadN X6.here hx rfl (hb hby d1_69) rfl ?_
    show Steps p.tables e below (T6.setTop (mkF m 70 #[.val (.ref a1), .val (.int p2), .val (.long q3), .second] [(.long q3), (.int (Int32.ofNat (q + 6))), (.ref a1)])) _
    refine XS.bipush X6.here hx rfl (hb hby d1_70) ?_
    show Steps p.tables e below (T6.setTop (mkF m 72 #[.val (.ref a1), .val (.int p2), .val (.long q3), .second] [(.int (8 : Int32)), (.long q3), (.int (Int32.ofNat (q + 6))), (.ref a1)])) _
    refine XT.lushr X6.here hx rfl (hb hby d1_72) rfl ?_
    show Steps p.tables e below (T6.setTop (mkF m 73 #[.val (.ref a1), .val (.int p2), .val (.long q3), .second] [(.long (XT.ushrL q3 (8 : Int32))), (.int (Int32.ofNat (q + 6))), (.ref a1)])) _
    refine XS.l2i X6.here hx rfl (hb hby d1_73) rfl ?_
    show Steps p.tables e below (T6.setTop (mkF m 74 #[.val (.ref a1), .val (.int p2), .val (.long q3), .second] [(.int ((XT.ushrL q3 (8 : Int32)).toInt32)), (.int (Int32.ofNat (q + 6))), (.ref a1)])) _
    refine XS.i2b X6.here hx rfl (hb hby d1_74) rfl ?_
    show Steps p.tables e below (T6.setTop (mkF m 75 #[.val (.ref a1), .val (.int p2), .val (.long q3), .second] [(.int (((XT.ushrL q3 (8 : Int32)).toInt32).toInt8.toInt32)), (.int (Int32.ofNat (q + 6))), (.ref a1)])) _
    refine st7 _ ?_
    show Steps p.tables e below (T7.setTop (mkF m 76 #[.val (.ref a1), .val (.int p2), .val (.long q3), .second] [])) _
    refine XS.aloadN X7.here hx rfl (hb hby d1_76) rfl rfl ?_
    show Steps p.tables e below (T7.setTop (mkF m 77 #[.val (.ref a1), .val (.int p2), .val (.long q3), .second] [(.ref a1)])) _
    refine XS.iloadN X7.here hx rfl (hb hby d1_77) rfl ?_
    show Steps p.tables e below (T7.setTop (mkF m 78 #[.val (.ref a1), .val (.int p2), .val (.long q3), .second] [(.int p2), (.ref a1)])) _
    refine XS.bipush X7.here hx rfl (hb hby d1_78) ?_
    show Steps p.tables e below (T7.setTop (mkF m 80 #[.val (.ref a1), .val (.int p2), .val (.long q3), .second] [(.int (7 : Int32)), (.int p2), (.ref a1)])) _
    refine XS.iadd X7.here hx rfl (hb hby d1_80) rfl ?_
    show Steps p.tables e below (T7.setTop (mkF m 81 #[.val (.ref a1), .val (.int p2), .val (.long q3), .second] [(.int (p2 + (7 : Int32))), (.ref a1)])) _
    rw [ha7]
    show Steps p.tables e below (T7.setTop (mkF m 81 #[.val (.ref a1), .val (.int p2), .val (.long q3), .second] [(.int (Int32.ofNat (q + 7))), (.ref a1)])) _
    refine XS.lloadN X7.here hx rfl (hb hby d1_81) rfl ?_
    show Steps p.tables e below (T7.setTop (mkF m 82 #[.val (.ref a1), .val (.int p2), .val (.long q3), .second] [(.long q3), (.int (Int32.ofNat (q + 7))), (.ref a1)])) _
    refine XS.l2i X7.here hx rfl (hb hby d1_82) rfl ?_
    show Steps p.tables e below (T7.setTop (mkF m 83 #[.val (.ref a1), .val (.int p2), .val (.long q3), .second] [(.int (q3.toInt32)), (.int (Int32.ofNat (q + 7))), (.ref a1)])) _
    refine XS.i2b X7.here hx rfl (hb hby d1_83) rfl ?_
    show Steps p.tables e below (T7.setTop (mkF m 84 #[.val (.ref a1), .val (.int p2), .val (.long q3), .second] [(.int ((q3.toInt32).toInt8.toInt32)), (.int (Int32.ofNat (q + 7))), (.ref a1)])) _
    refine st8 _ ?_
    show Steps p.tables e below (T8.setTop (mkF m 85 #[.val (.ref a1), .val (.int p2), .val (.long q3), .second] [])) _
    exact X8.returnOut hx Bd.returns (hb hby d1_85) hr
  · show Q1 Z a1 q q3 B h0 n0 _ T8.heap _
    rw [e8]
    exact ⟨rfl, N8, K8, V8.congr (own_put_ok B q q3)⟩
theorem d2_6 : decode prog_17_method_3_code 6 = .ok (.iload_n 3, 1) := by decide +kernel
theorem d2_7 : decode prog_17_method_3_code 7 = .ok (.bipush 32, 2) := by decide +kernel
theorem d2_9 : decode prog_17_method_3_code 9 = .ok (.if_icmp .ge 85, 3) := by decide +kernel
theorem d2_12 : decode prog_17_method_3_code 12 = .ok (.bipush 8, 2) := by decide +kernel
theorem d2_14 : decode prog_17_method_3_code 14 = .ok (.bipush 31, 2) := by decide +kernel
theorem d2_16 : decode prog_17_method_3_code 16 = .ok (.iload_n 3, 1) := by decide +kernel
theorem d2_17 : decode prog_17_method_3_code 17 = .ok (.isub, 1) := by decide +kernel
theorem d2_18 : decode prog_17_method_3_code 18 = .ok (.imul, 1) := by decide +kernel
theorem d2_19 : decode prog_17_method_3_code 19 = .ok (.istore 4, 2) := by decide +kernel
theorem d2_21 : decode prog_17_method_3_code 21 = .ok (.aload_n 0, 1) := by decide +kernel
theorem d2_22 : decode prog_17_method_3_code 22 = .ok (.iload_n 1, 1) := by decide +kernel
theorem d2_23 : decode prog_17_method_3_code 23 = .ok (.iload_n 3, 1) := by decide +kernel
theorem d2_24 : decode prog_17_method_3_code 24 = .ok (.iadd, 1) := by decide +kernel
theorem d2_25 : decode prog_17_method_3_code 25 = .ok (.baload, 1) := by decide +kernel
theorem d2_26 : decode prog_17_method_3_code 26 = .ok (.i2l, 1) := by decide +kernel
theorem d2_27 : decode prog_17_method_3_code 27 = .ok (.ldc2_w 21, 3) := by decide +kernel
theorem d2_30 : decode prog_17_method_3_code 30 = .ok (.land, 1) := by decide +kernel
theorem d2_31 : decode prog_17_method_3_code 31 = .ok (.lstore 5, 2) := by decide +kernel
theorem d2_33 : decode prog_17_method_3_code 33 = .ok (.aload_n 2, 1) := by decide +kernel
theorem d2_34 : decode prog_17_method_3_code 34 = .ok (.iload 4, 2) := by decide +kernel
theorem d2_36 : decode prog_17_method_3_code 36 = .ok (.bipush 52, 2) := by decide +kernel
theorem d2_38 : decode prog_17_method_3_code 38 = .ok (.idiv, 1) := by decide +kernel
theorem d2_39 : decode prog_17_method_3_code 39 = .ok (.dup2, 1) := by decide +kernel
theorem d2_40 : decode prog_17_method_3_code 40 = .ok (.laload, 1) := by decide +kernel
theorem d2_41 : decode prog_17_method_3_code 41 = .ok (.lload 5, 2) := by decide +kernel
theorem d2_43 : decode prog_17_method_3_code 43 = .ok (.iload 4, 2) := by decide +kernel
theorem d2_45 : decode prog_17_method_3_code 45 = .ok (.bipush 52, 2) := by decide +kernel
theorem d2_47 : decode prog_17_method_3_code 47 = .ok (.irem, 1) := by decide +kernel
theorem d2_48 : decode prog_17_method_3_code 48 = .ok (.lshl, 1) := by decide +kernel
theorem d2_49 : decode prog_17_method_3_code 49 = .ok (.ldc2_w 19, 3) := by decide +kernel
theorem d2_52 : decode prog_17_method_3_code 52 = .ok (.land, 1) := by decide +kernel
theorem d2_53 : decode prog_17_method_3_code 53 = .ok (.lor, 1) := by decide +kernel
set_option maxRecDepth 65536 in
set_option maxHeartbeats 40000000 in
theorem sgA_u {p : Program} {l : Launch} {e : Env} {R : Room} {s : State} {m : MethodId} {args : Array Value} {below : List Frame} {meth : Method} {c : Code} {T0 : State} {locs : List Loc} {cells slots : Nat} {Z : State} {a0 : Array Value} {h0 : Heap} (o0 o2 : Addr) (i1 i3 x4 x5 x6 x7 w : Int32) (u : Int64) (cl0 cl2 : Cell)
    (X0 : Stand p l e R s m args below meth c T0 locs cells slots) (hx : p.tables.exec = Jvm.exec) (hZ : Z.Warmed39 s.vm) (hw : ∀ d ∈ tables_1, d.before a0 Z = true) (hby : c.code = prog_17_method_3_code) (hown : s.vm.findClass "ownclaim/jose/Limbs" = some m.cls) (e0 : T0.heap = h0) (Ar0 : Arr Z h0 o0 cl0 .byte) (Ar2 : Arr Z h0 o2 cl2 .long) (hin0 : ¬ (x7 < 0 ∨ cl0.slots.size ≤ x7.toNatClampNeg)) (hat0 : cl0.slots[x7.toNatClampNeg]? = some (.int w)) (hin2 : ¬ (x5 < 0 ∨ cl2.slots.size ≤ x5.toNatClampNeg)) (hat2 : cl2.slots[x5.toNatClampNeg]? = some (.long u)) (hx4 : (8 : Int32) * ((31 : Int32) - i3) = x4) (hx5 : x4 / (52 : Int32) = x5) (hx6 : x4 % (52 : Int32) = x6) (hx7 : i1 + i3 = x7) (hc9 : i3 < (32 : Int32)) {target : State} (kt : Steps p.tables e below (T0.setTop (mkF m 54 #[.val (.ref o0), .val (.int i1), .val (.ref o2), .val (.int i3), .val (.int x4), .val (.long ((w.toInt64) &&& (255 : Int64))), .second] [(.long (u ||| ((((w.toInt64) &&& (255 : Int64)) <<< ((x6).toInt64 &&& 63)) &&& (4503599627370495 : Int64)))), (.int x5), (.ref o2)])) target) :
    Steps p.tables e below (T0.setTop (mkF m 6 #[.val (.ref o0), .val (.int i1), .val (.ref o2), .val (.int i3), .unset, .unset, .unset] [])) target := by
  show Steps p.tables e below (T0.setTop (mkF m 6 #[.val (.ref o0), .val (.int i1), .val (.ref o2), .val (.int i3), .unset, .unset, .unset] [])) _
  refine XS.iloadN X0.here hx rfl (hb hby d2_6) rfl ?_
  show Steps p.tables e below (T0.setTop (mkF m 7 #[.val (.ref o0), .val (.int i1), .val (.ref o2), .val (.int i3), .unset, .unset, .unset] [(.int i3)])) _
  refine XS.bipush X0.here hx rfl (hb hby d2_7) ?_
  show Steps p.tables e below (T0.setTop (mkF m 9 #[.val (.ref o0), .val (.int i1), .val (.ref o2), .val (.int i3), .unset, .unset, .unset] [(.int (32 : Int32)), (.int i3)])) _
  refine XS.icmpNo X0.here hx rfl (hb hby d2_9) rfl (tlt hc9).2.1 ?_
  show Steps p.tables e below (T0.setTop (mkF m 12 #[.val (.ref o0), .val (.int i1), .val (.ref o2), .val (.int i3), .unset, .unset, .unset] [])) _
  refine XS.bipush X0.here hx rfl (hb hby d2_12) ?_
  show Steps p.tables e below (T0.setTop (mkF m 14 #[.val (.ref o0), .val (.int i1), .val (.ref o2), .val (.int i3), .unset, .unset, .unset] [(.int (8 : Int32))])) _
  refine XS.bipush X0.here hx rfl (hb hby d2_14) ?_
  show Steps p.tables e below (T0.setTop (mkF m 16 #[.val (.ref o0), .val (.int i1), .val (.ref o2), .val (.int i3), .unset, .unset, .unset] [(.int (31 : Int32)), (.int (8 : Int32))])) _
  refine XS.iloadN X0.here hx rfl (hb hby d2_16) rfl ?_
  show Steps p.tables e below (T0.setTop (mkF m 17 #[.val (.ref o0), .val (.int i1), .val (.ref o2), .val (.int i3), .unset, .unset, .unset] [(.int i3), (.int (31 : Int32)), (.int (8 : Int32))])) _
  refine XS.isub X0.here hx rfl (hb hby d2_17) rfl ?_
  show Steps p.tables e below (T0.setTop (mkF m 18 #[.val (.ref o0), .val (.int i1), .val (.ref o2), .val (.int i3), .unset, .unset, .unset] [(.int ((31 : Int32) - i3)), (.int (8 : Int32))])) _
  refine XS.imul X0.here hx rfl (hb hby d2_18) rfl ?_
  show Steps p.tables e below (T0.setTop (mkF m 19 #[.val (.ref o0), .val (.int i1), .val (.ref o2), .val (.int i3), .unset, .unset, .unset] [(.int ((8 : Int32) * ((31 : Int32) - i3)))])) _
  rw [hx4]
  show Steps p.tables e below (T0.setTop (mkF m 19 #[.val (.ref o0), .val (.int i1), .val (.ref o2), .val (.int i3), .unset, .unset, .unset] [(.int x4)])) _
  refine XS.istore X0.here hx rfl (hb hby d2_19) rfl (l' := #[.val (.ref o0), .val (.int i1), .val (.ref o2), .val (.int i3), .val (.int x4), .unset, .unset]) rfl ?_
  show Steps p.tables e below (T0.setTop (mkF m 21 #[.val (.ref o0), .val (.int i1), .val (.ref o2), .val (.int i3), .val (.int x4), .unset, .unset] [])) _
  refine XS.aloadN X0.here hx rfl (hb hby d2_21) rfl rfl ?_
  show Steps p.tables e below (T0.setTop (mkF m 22 #[.val (.ref o0), .val (.int i1), .val (.ref o2), .val (.int i3), .val (.int x4), .unset, .unset] [(.ref o0)])) _
  refine XS.iloadN X0.here hx rfl (hb hby d2_22) rfl ?_
  show Steps p.tables e below (T0.setTop (mkF m 23 #[.val (.ref o0), .val (.int i1), .val (.ref o2), .val (.int i3), .val (.int x4), .unset, .unset] [(.int i1), (.ref o0)])) _
  refine XS.iloadN X0.here hx rfl (hb hby d2_23) rfl ?_
  show Steps p.tables e below (T0.setTop (mkF m 24 #[.val (.ref o0), .val (.int i1), .val (.ref o2), .val (.int i3), .val (.int x4), .unset, .unset] [(.int i3), (.int i1), (.ref o0)])) _
  refine XS.iadd X0.here hx rfl (hb hby d2_24) rfl ?_
  show Steps p.tables e below (T0.setTop (mkF m 25 #[.val (.ref o0), .val (.int i1), .val (.ref o2), .val (.int i3), .val (.int x4), .unset, .unset] [(.int (i1 + i3)), (.ref o0)])) _
  rw [hx7]
  show Steps p.tables e below (T0.setTop (mkF m 25 #[.val (.ref o0), .val (.int i1), .val (.ref o2), .val (.int i3), .val (.int x4), .unset, .unset] [(.int x7), (.ref o0)])) _
  refine X0.baloadBytes hx (j := x7) (v := (.int w)) (by rw [e0]; exact Ar0.1) (State.isArrayOf_alike hZ.alike Ar0.2.1) Ar0.2.2 hin0 hat0 (g := (mkF m 25 #[.val (.ref o0), .val (.int i1), .val (.ref o2), .val (.int i3), .val (.int x4), .unset, .unset] [(.int x7), (.ref o0)])) rfl rfl (hb hby d2_25) _ ?_
  show Steps p.tables e below (T0.setTop (mkF m 26 #[.val (.ref o0), .val (.int i1), .val (.ref o2), .val (.int i3), .val (.int x4), .unset, .unset] [(.int w)])) _
  refine XS.i2l X0.here hx rfl (hb hby d2_26) rfl ?_
  show Steps p.tables e below (T0.setTop (mkF m 27 #[.val (.ref o0), .val (.int i1), .val (.ref o2), .val (.int i3), .val (.int x4), .unset, .unset] [(.long (w.toInt64))])) _
  refine X0.ldc2Long hx hown (mvT hZ (hw _ (List.mem_of_getElem? (i := 11) rfl))) (g := (mkF m 27 #[.val (.ref o0), .val (.int i1), .val (.ref o2), .val (.int i3), .val (.int x4), .unset, .unset] [(.long (w.toInt64))])) rfl (hb hby d2_27) _ ?_
  show Steps p.tables e below (T0.setTop (mkF m 30 #[.val (.ref o0), .val (.int i1), .val (.ref o2), .val (.int i3), .val (.int x4), .unset, .unset] [(.long (255 : Int64)), (.long (w.toInt64))])) _
  refine XS.land X0.here hx rfl (hb hby d2_30) rfl ?_
  show Steps p.tables e below (T0.setTop (mkF m 31 #[.val (.ref o0), .val (.int i1), .val (.ref o2), .val (.int i3), .val (.int x4), .unset, .unset] [(.long ((w.toInt64) &&& (255 : Int64)))])) _
  refine XS.lstore X0.here hx rfl (hb hby d2_31) rfl (l' := #[.val (.ref o0), .val (.int i1), .val (.ref o2), .val (.int i3), .val (.int x4), .val (.long ((w.toInt64) &&& (255 : Int64))), .second]) rfl ?_
  show Steps p.tables e below (T0.setTop (mkF m 33 #[.val (.ref o0), .val (.int i1), .val (.ref o2), .val (.int i3), .val (.int x4), .val (.long ((w.toInt64) &&& (255 : Int64))), .second] [])) _
  refine XS.aloadN X0.here hx rfl (hb hby d2_33) rfl rfl ?_
  show Steps p.tables e below (T0.setTop (mkF m 34 #[.val (.ref o0), .val (.int i1), .val (.ref o2), .val (.int i3), .val (.int x4), .val (.long ((w.toInt64) &&& (255 : Int64))), .second] [(.ref o2)])) _
  refine XS.iload X0.here hx rfl (hb hby d2_34) rfl ?_
  show Steps p.tables e below (T0.setTop (mkF m 36 #[.val (.ref o0), .val (.int i1), .val (.ref o2), .val (.int i3), .val (.int x4), .val (.long ((w.toInt64) &&& (255 : Int64))), .second] [(.int x4), (.ref o2)])) _
  refine XS.bipush X0.here hx rfl (hb hby d2_36) ?_
  show Steps p.tables e below (T0.setTop (mkF m 38 #[.val (.ref o0), .val (.int i1), .val (.ref o2), .val (.int i3), .val (.int x4), .val (.long ((w.toInt64) &&& (255 : Int64))), .second] [(.int (52 : Int32)), (.int x4), (.ref o2)])) _
  refine XS.idiv X0.here hx rfl (hb hby d2_38) rfl (by decide) ?_
  show Steps p.tables e below (T0.setTop (mkF m 39 #[.val (.ref o0), .val (.int i1), .val (.ref o2), .val (.int i3), .val (.int x4), .val (.long ((w.toInt64) &&& (255 : Int64))), .second] [(.int (x4 / (52 : Int32))), (.ref o2)])) _
  rw [hx5]
  show Steps p.tables e below (T0.setTop (mkF m 39 #[.val (.ref o0), .val (.int i1), .val (.ref o2), .val (.int i3), .val (.int x4), .val (.long ((w.toInt64) &&& (255 : Int64))), .second] [(.int x5), (.ref o2)])) _
  refine XT.dup2 X0.here hx rfl (hb hby d2_39) rfl rfl rfl ?_
  show Steps p.tables e below (T0.setTop (mkF m 40 #[.val (.ref o0), .val (.int i1), .val (.ref o2), .val (.int i3), .val (.int x4), .val (.long ((w.toInt64) &&& (255 : Int64))), .second] [(.int x5), (.ref o2), (.int x5), (.ref o2)])) _
  refine X0.laload hx (j := x5) (v := (.long u)) (by rw [e0]; exact Ar2.1) (State.isArrayOf_alike hZ.alike Ar2.2.1) Ar2.2.2 hin2 hat2 (g := (mkF m 40 #[.val (.ref o0), .val (.int i1), .val (.ref o2), .val (.int i3), .val (.int x4), .val (.long ((w.toInt64) &&& (255 : Int64))), .second] [(.int x5), (.ref o2), (.int x5), (.ref o2)])) rfl rfl (hb hby d2_40) _ ?_
  show Steps p.tables e below (T0.setTop (mkF m 41 #[.val (.ref o0), .val (.int i1), .val (.ref o2), .val (.int i3), .val (.int x4), .val (.long ((w.toInt64) &&& (255 : Int64))), .second] [(.long u), (.int x5), (.ref o2)])) _
  refine XS.lload X0.here hx rfl (hb hby d2_41) rfl ?_
  show Steps p.tables e below (T0.setTop (mkF m 43 #[.val (.ref o0), .val (.int i1), .val (.ref o2), .val (.int i3), .val (.int x4), .val (.long ((w.toInt64) &&& (255 : Int64))), .second] [(.long ((w.toInt64) &&& (255 : Int64))), (.long u), (.int x5), (.ref o2)])) _
  refine XS.iload X0.here hx rfl (hb hby d2_43) rfl ?_
  show Steps p.tables e below (T0.setTop (mkF m 45 #[.val (.ref o0), .val (.int i1), .val (.ref o2), .val (.int i3), .val (.int x4), .val (.long ((w.toInt64) &&& (255 : Int64))), .second] [(.int x4), (.long ((w.toInt64) &&& (255 : Int64))), (.long u), (.int x5), (.ref o2)])) _
  refine XS.bipush X0.here hx rfl (hb hby d2_45) ?_
  show Steps p.tables e below (T0.setTop (mkF m 47 #[.val (.ref o0), .val (.int i1), .val (.ref o2), .val (.int i3), .val (.int x4), .val (.long ((w.toInt64) &&& (255 : Int64))), .second] [(.int (52 : Int32)), (.int x4), (.long ((w.toInt64) &&& (255 : Int64))), (.long u), (.int x5), (.ref o2)])) _
  refine iremM (g := (mkF m 47 #[.val (.ref o0), .val (.int i1), .val (.ref o2), .val (.int i3), .val (.int x4), .val (.long ((w.toInt64) &&& (255 : Int64))), .second] [(.int (52 : Int32)), (.int x4), (.long ((w.toInt64) &&& (255 : Int64))), (.long u), (.int x5), (.ref o2)])) X0 hx rfl (hb hby d2_47) rfl (by decide) ?_
  show Steps p.tables e below (T0.setTop (mkF m 48 #[.val (.ref o0), .val (.int i1), .val (.ref o2), .val (.int i3), .val (.int x4), .val (.long ((w.toInt64) &&& (255 : Int64))), .second] [(.int (x4 % (52 : Int32))), (.long ((w.toInt64) &&& (255 : Int64))), (.long u), (.int x5), (.ref o2)])) _
  rw [hx6]
  show Steps p.tables e below (T0.setTop (mkF m 48 #[.val (.ref o0), .val (.int i1), .val (.ref o2), .val (.int i3), .val (.int x4), .val (.long ((w.toInt64) &&& (255 : Int64))), .second] [(.int x6), (.long ((w.toInt64) &&& (255 : Int64))), (.long u), (.int x5), (.ref o2)])) _
  refine XT.lshl X0.here hx rfl (hb hby d2_48) rfl ?_
  show Steps p.tables e below (T0.setTop (mkF m 49 #[.val (.ref o0), .val (.int i1), .val (.ref o2), .val (.int i3), .val (.int x4), .val (.long ((w.toInt64) &&& (255 : Int64))), .second] [(.long (((w.toInt64) &&& (255 : Int64)) <<< ((x6).toInt64 &&& 63))), (.long u), (.int x5), (.ref o2)])) _
  refine X0.ldc2Long hx hown (mvT hZ (hw _ (List.mem_of_getElem? (i := 12) rfl))) (g := (mkF m 49 #[.val (.ref o0), .val (.int i1), .val (.ref o2), .val (.int i3), .val (.int x4), .val (.long ((w.toInt64) &&& (255 : Int64))), .second] [(.long (((w.toInt64) &&& (255 : Int64)) <<< ((x6).toInt64 &&& 63))), (.long u), (.int x5), (.ref o2)])) rfl (hb hby d2_49) _ ?_
  show Steps p.tables e below (T0.setTop (mkF m 52 #[.val (.ref o0), .val (.int i1), .val (.ref o2), .val (.int i3), .val (.int x4), .val (.long ((w.toInt64) &&& (255 : Int64))), .second] [(.long (4503599627370495 : Int64)), (.long (((w.toInt64) &&& (255 : Int64)) <<< ((x6).toInt64 &&& 63))), (.long u), (.int x5), (.ref o2)])) _
  refine XS.land X0.here hx rfl (hb hby d2_52) rfl ?_
  show Steps p.tables e below (T0.setTop (mkF m 53 #[.val (.ref o0), .val (.int i1), .val (.ref o2), .val (.int i3), .val (.int x4), .val (.long ((w.toInt64) &&& (255 : Int64))), .second] [(.long ((((w.toInt64) &&& (255 : Int64)) <<< ((x6).toInt64 &&& 63)) &&& (4503599627370495 : Int64))), (.long u), (.int x5), (.ref o2)])) _
  refine XS.lor X0.here hx rfl (hb hby d2_53) rfl ?_
  exact kt
set_option maxRecDepth 65536 in
set_option maxHeartbeats 40000000 in
theorem sgA_s {p : Program} {l : Launch} {e : Env} {R : Room} {s : State} {m : MethodId} {args : Array Value} {below : List Frame} {meth : Method} {c : Code} {T0 : State} {locs : List Loc} {cells slots : Nat} {Z : State} {a0 : Array Value} {h0 : Heap} (o0 o2 : Addr) (i1 i3 x4 x5 x6 x7 w : Int32) (u : Int64) (cl0 cl2 : Cell) (y4 : Int32) (y5 : Int64)
    (X0 : Stand p l e R s m args below meth c T0 locs cells slots) (hx : p.tables.exec = Jvm.exec) (hZ : Z.Warmed39 s.vm) (hw : ∀ d ∈ tables_1, d.before a0 Z = true) (hby : c.code = prog_17_method_3_code) (hown : s.vm.findClass "ownclaim/jose/Limbs" = some m.cls) (e0 : T0.heap = h0) (Ar0 : Arr Z h0 o0 cl0 .byte) (Ar2 : Arr Z h0 o2 cl2 .long) (hin0 : ¬ (x7 < 0 ∨ cl0.slots.size ≤ x7.toNatClampNeg)) (hat0 : cl0.slots[x7.toNatClampNeg]? = some (.int w)) (hin2 : ¬ (x5 < 0 ∨ cl2.slots.size ≤ x5.toNatClampNeg)) (hat2 : cl2.slots[x5.toNatClampNeg]? = some (.long u)) (hx4 : (8 : Int32) * ((31 : Int32) - i3) = x4) (hx5 : x4 / (52 : Int32) = x5) (hx6 : x4 % (52 : Int32) = x6) (hx7 : i1 + i3 = x7) (hc9 : i3 < (32 : Int32)) {target : State} (kt : Steps p.tables e below (T0.setTop (mkF m 54 #[.val (.ref o0), .val (.int i1), .val (.ref o2), .val (.int i3), .val (.int x4), .val (.long ((w.toInt64) &&& (255 : Int64))), .second] [(.long (u ||| ((((w.toInt64) &&& (255 : Int64)) <<< ((x6).toInt64 &&& 63)) &&& (4503599627370495 : Int64)))), (.int x5), (.ref o2)])) target) :
    Steps p.tables e below (T0.setTop (mkF m 6 #[.val (.ref o0), .val (.int i1), .val (.ref o2), .val (.int i3), .val (.int y4), .val (.long y5), .second] [])) target := by
  show Steps p.tables e below (T0.setTop (mkF m 6 #[.val (.ref o0), .val (.int i1), .val (.ref o2), .val (.int i3), .val (.int y4), .val (.long y5), .second] [])) _
  refine XS.iloadN X0.here hx rfl (hb hby d2_6) rfl ?_
  show Steps p.tables e below (T0.setTop (mkF m 7 #[.val (.ref o0), .val (.int i1), .val (.ref o2), .val (.int i3), .val (.int y4), .val (.long y5), .second] [(.int i3)])) _
  refine XS.bipush X0.here hx rfl (hb hby d2_7) ?_
  show Steps p.tables e below (T0.setTop (mkF m 9 #[.val (.ref o0), .val (.int i1), .val (.ref o2), .val (.int i3), .val (.int y4), .val (.long y5), .second] [(.int (32 : Int32)), (.int i3)])) _
  refine XS.icmpNo X0.here hx rfl (hb hby d2_9) rfl (tlt hc9).2.1 ?_
  show Steps p.tables e below (T0.setTop (mkF m 12 #[.val (.ref o0), .val (.int i1), .val (.ref o2), .val (.int i3), .val (.int y4), .val (.long y5), .second] [])) _
  refine XS.bipush X0.here hx rfl (hb hby d2_12) ?_
  show Steps p.tables e below (T0.setTop (mkF m 14 #[.val (.ref o0), .val (.int i1), .val (.ref o2), .val (.int i3), .val (.int y4), .val (.long y5), .second] [(.int (8 : Int32))])) _
  refine XS.bipush X0.here hx rfl (hb hby d2_14) ?_
  show Steps p.tables e below (T0.setTop (mkF m 16 #[.val (.ref o0), .val (.int i1), .val (.ref o2), .val (.int i3), .val (.int y4), .val (.long y5), .second] [(.int (31 : Int32)), (.int (8 : Int32))])) _
  refine XS.iloadN X0.here hx rfl (hb hby d2_16) rfl ?_
  show Steps p.tables e below (T0.setTop (mkF m 17 #[.val (.ref o0), .val (.int i1), .val (.ref o2), .val (.int i3), .val (.int y4), .val (.long y5), .second] [(.int i3), (.int (31 : Int32)), (.int (8 : Int32))])) _
  refine XS.isub X0.here hx rfl (hb hby d2_17) rfl ?_
  show Steps p.tables e below (T0.setTop (mkF m 18 #[.val (.ref o0), .val (.int i1), .val (.ref o2), .val (.int i3), .val (.int y4), .val (.long y5), .second] [(.int ((31 : Int32) - i3)), (.int (8 : Int32))])) _
  refine XS.imul X0.here hx rfl (hb hby d2_18) rfl ?_
  show Steps p.tables e below (T0.setTop (mkF m 19 #[.val (.ref o0), .val (.int i1), .val (.ref o2), .val (.int i3), .val (.int y4), .val (.long y5), .second] [(.int ((8 : Int32) * ((31 : Int32) - i3)))])) _
  rw [hx4]
  show Steps p.tables e below (T0.setTop (mkF m 19 #[.val (.ref o0), .val (.int i1), .val (.ref o2), .val (.int i3), .val (.int y4), .val (.long y5), .second] [(.int x4)])) _
  refine XS.istore X0.here hx rfl (hb hby d2_19) rfl (l' := #[.val (.ref o0), .val (.int i1), .val (.ref o2), .val (.int i3), .val (.int x4), .val (.long y5), .second]) rfl ?_
  show Steps p.tables e below (T0.setTop (mkF m 21 #[.val (.ref o0), .val (.int i1), .val (.ref o2), .val (.int i3), .val (.int x4), .val (.long y5), .second] [])) _
  refine XS.aloadN X0.here hx rfl (hb hby d2_21) rfl rfl ?_
  show Steps p.tables e below (T0.setTop (mkF m 22 #[.val (.ref o0), .val (.int i1), .val (.ref o2), .val (.int i3), .val (.int x4), .val (.long y5), .second] [(.ref o0)])) _
  refine XS.iloadN X0.here hx rfl (hb hby d2_22) rfl ?_
  show Steps p.tables e below (T0.setTop (mkF m 23 #[.val (.ref o0), .val (.int i1), .val (.ref o2), .val (.int i3), .val (.int x4), .val (.long y5), .second] [(.int i1), (.ref o0)])) _
  refine XS.iloadN X0.here hx rfl (hb hby d2_23) rfl ?_
  show Steps p.tables e below (T0.setTop (mkF m 24 #[.val (.ref o0), .val (.int i1), .val (.ref o2), .val (.int i3), .val (.int x4), .val (.long y5), .second] [(.int i3), (.int i1), (.ref o0)])) _
  refine XS.iadd X0.here hx rfl (hb hby d2_24) rfl ?_
  show Steps p.tables e below (T0.setTop (mkF m 25 #[.val (.ref o0), .val (.int i1), .val (.ref o2), .val (.int i3), .val (.int x4), .val (.long y5), .second] [(.int (i1 + i3)), (.ref o0)])) _
  rw [hx7]
  show Steps p.tables e below (T0.setTop (mkF m 25 #[.val (.ref o0), .val (.int i1), .val (.ref o2), .val (.int i3), .val (.int x4), .val (.long y5), .second] [(.int x7), (.ref o0)])) _
  refine X0.baloadBytes hx (j := x7) (v := (.int w)) (by rw [e0]; exact Ar0.1) (State.isArrayOf_alike hZ.alike Ar0.2.1) Ar0.2.2 hin0 hat0 (g := (mkF m 25 #[.val (.ref o0), .val (.int i1), .val (.ref o2), .val (.int i3), .val (.int x4), .val (.long y5), .second] [(.int x7), (.ref o0)])) rfl rfl (hb hby d2_25) _ ?_
  show Steps p.tables e below (T0.setTop (mkF m 26 #[.val (.ref o0), .val (.int i1), .val (.ref o2), .val (.int i3), .val (.int x4), .val (.long y5), .second] [(.int w)])) _
  refine XS.i2l X0.here hx rfl (hb hby d2_26) rfl ?_
  show Steps p.tables e below (T0.setTop (mkF m 27 #[.val (.ref o0), .val (.int i1), .val (.ref o2), .val (.int i3), .val (.int x4), .val (.long y5), .second] [(.long (w.toInt64))])) _
  refine X0.ldc2Long hx hown (mvT hZ (hw _ (List.mem_of_getElem? (i := 11) rfl))) (g := (mkF m 27 #[.val (.ref o0), .val (.int i1), .val (.ref o2), .val (.int i3), .val (.int x4), .val (.long y5), .second] [(.long (w.toInt64))])) rfl (hb hby d2_27) _ ?_
  show Steps p.tables e below (T0.setTop (mkF m 30 #[.val (.ref o0), .val (.int i1), .val (.ref o2), .val (.int i3), .val (.int x4), .val (.long y5), .second] [(.long (255 : Int64)), (.long (w.toInt64))])) _
  refine XS.land X0.here hx rfl (hb hby d2_30) rfl ?_
  show Steps p.tables e below (T0.setTop (mkF m 31 #[.val (.ref o0), .val (.int i1), .val (.ref o2), .val (.int i3), .val (.int x4), .val (.long y5), .second] [(.long ((w.toInt64) &&& (255 : Int64)))])) _
  refine XS.lstore X0.here hx rfl (hb hby d2_31) rfl (l' := #[.val (.ref o0), .val (.int i1), .val (.ref o2), .val (.int i3), .val (.int x4), .val (.long ((w.toInt64) &&& (255 : Int64))), .second]) rfl ?_
  show Steps p.tables e below (T0.setTop (mkF m 33 #[.val (.ref o0), .val (.int i1), .val (.ref o2), .val (.int i3), .val (.int x4), .val (.long ((w.toInt64) &&& (255 : Int64))), .second] [])) _
  refine XS.aloadN X0.here hx rfl (hb hby d2_33) rfl rfl ?_
  show Steps p.tables e below (T0.setTop (mkF m 34 #[.val (.ref o0), .val (.int i1), .val (.ref o2), .val (.int i3), .val (.int x4), .val (.long ((w.toInt64) &&& (255 : Int64))), .second] [(.ref o2)])) _
  refine XS.iload X0.here hx rfl (hb hby d2_34) rfl ?_
  show Steps p.tables e below (T0.setTop (mkF m 36 #[.val (.ref o0), .val (.int i1), .val (.ref o2), .val (.int i3), .val (.int x4), .val (.long ((w.toInt64) &&& (255 : Int64))), .second] [(.int x4), (.ref o2)])) _
  refine XS.bipush X0.here hx rfl (hb hby d2_36) ?_
  show Steps p.tables e below (T0.setTop (mkF m 38 #[.val (.ref o0), .val (.int i1), .val (.ref o2), .val (.int i3), .val (.int x4), .val (.long ((w.toInt64) &&& (255 : Int64))), .second] [(.int (52 : Int32)), (.int x4), (.ref o2)])) _
  refine XS.idiv X0.here hx rfl (hb hby d2_38) rfl (by decide) ?_
  show Steps p.tables e below (T0.setTop (mkF m 39 #[.val (.ref o0), .val (.int i1), .val (.ref o2), .val (.int i3), .val (.int x4), .val (.long ((w.toInt64) &&& (255 : Int64))), .second] [(.int (x4 / (52 : Int32))), (.ref o2)])) _
  rw [hx5]
  show Steps p.tables e below (T0.setTop (mkF m 39 #[.val (.ref o0), .val (.int i1), .val (.ref o2), .val (.int i3), .val (.int x4), .val (.long ((w.toInt64) &&& (255 : Int64))), .second] [(.int x5), (.ref o2)])) _
  refine XT.dup2 X0.here hx rfl (hb hby d2_39) rfl rfl rfl ?_
  show Steps p.tables e below (T0.setTop (mkF m 40 #[.val (.ref o0), .val (.int i1), .val (.ref o2), .val (.int i3), .val (.int x4), .val (.long ((w.toInt64) &&& (255 : Int64))), .second] [(.int x5), (.ref o2), (.int x5), (.ref o2)])) _
  refine X0.laload hx (j := x5) (v := (.long u)) (by rw [e0]; exact Ar2.1) (State.isArrayOf_alike hZ.alike Ar2.2.1) Ar2.2.2 hin2 hat2 (g := (mkF m 40 #[.val (.ref o0), .val (.int i1), .val (.ref o2), .val (.int i3), .val (.int x4), .val (.long ((w.toInt64) &&& (255 : Int64))), .second] [(.int x5), (.ref o2), (.int x5), (.ref o2)])) rfl rfl (hb hby d2_40) _ ?_
  show Steps p.tables e below (T0.setTop (mkF m 41 #[.val (.ref o0), .val (.int i1), .val (.ref o2), .val (.int i3), .val (.int x4), .val (.long ((w.toInt64) &&& (255 : Int64))), .second] [(.long u), (.int x5), (.ref o2)])) _
  refine XS.lload X0.here hx rfl (hb hby d2_41) rfl ?_
  show Steps p.tables e below (T0.setTop (mkF m 43 #[.val (.ref o0), .val (.int i1), .val (.ref o2), .val (.int i3), .val (.int x4), .val (.long ((w.toInt64) &&& (255 : Int64))), .second] [(.long ((w.toInt64) &&& (255 : Int64))), (.long u), (.int x5), (.ref o2)])) _
  refine XS.iload X0.here hx rfl (hb hby d2_43) rfl ?_
  show Steps p.tables e below (T0.setTop (mkF m 45 #[.val (.ref o0), .val (.int i1), .val (.ref o2), .val (.int i3), .val (.int x4), .val (.long ((w.toInt64) &&& (255 : Int64))), .second] [(.int x4), (.long ((w.toInt64) &&& (255 : Int64))), (.long u), (.int x5), (.ref o2)])) _
  refine XS.bipush X0.here hx rfl (hb hby d2_45) ?_
  show Steps p.tables e below (T0.setTop (mkF m 47 #[.val (.ref o0), .val (.int i1), .val (.ref o2), .val (.int i3), .val (.int x4), .val (.long ((w.toInt64) &&& (255 : Int64))), .second] [(.int (52 : Int32)), (.int x4), (.long ((w.toInt64) &&& (255 : Int64))), (.long u), (.int x5), (.ref o2)])) _
  refine iremM (g := (mkF m 47 #[.val (.ref o0), .val (.int i1), .val (.ref o2), .val (.int i3), .val (.int x4), .val (.long ((w.toInt64) &&& (255 : Int64))), .second] [(.int (52 : Int32)), (.int x4), (.long ((w.toInt64) &&& (255 : Int64))), (.long u), (.int x5), (.ref o2)])) X0 hx rfl (hb hby d2_47) rfl (by decide) ?_
  show Steps p.tables e below (T0.setTop (mkF m 48 #[.val (.ref o0), .val (.int i1), .val (.ref o2), .val (.int i3), .val (.int x4), .val (.long ((w.toInt64) &&& (255 : Int64))), .second] [(.int (x4 % (52 : Int32))), (.long ((w.toInt64) &&& (255 : Int64))), (.long u), (.int x5), (.ref o2)])) _
  rw [hx6]
  show Steps p.tables e below (T0.setTop (mkF m 48 #[.val (.ref o0), .val (.int i1), .val (.ref o2), .val (.int i3), .val (.int x4), .val (.long ((w.toInt64) &&& (255 : Int64))), .second] [(.int x6), (.long ((w.toInt64) &&& (255 : Int64))), (.long u), (.int x5), (.ref o2)])) _
  refine XT.lshl X0.here hx rfl (hb hby d2_48) rfl ?_
  show Steps p.tables e below (T0.setTop (mkF m 49 #[.val (.ref o0), .val (.int i1), .val (.ref o2), .val (.int i3), .val (.int x4), .val (.long ((w.toInt64) &&& (255 : Int64))), .second] [(.long (((w.toInt64) &&& (255 : Int64)) <<< ((x6).toInt64 &&& 63))), (.long u), (.int x5), (.ref o2)])) _
  refine X0.ldc2Long hx hown (mvT hZ (hw _ (List.mem_of_getElem? (i := 12) rfl))) (g := (mkF m 49 #[.val (.ref o0), .val (.int i1), .val (.ref o2), .val (.int i3), .val (.int x4), .val (.long ((w.toInt64) &&& (255 : Int64))), .second] [(.long (((w.toInt64) &&& (255 : Int64)) <<< ((x6).toInt64 &&& 63))), (.long u), (.int x5), (.ref o2)])) rfl (hb hby d2_49) _ ?_
  show Steps p.tables e below (T0.setTop (mkF m 52 #[.val (.ref o0), .val (.int i1), .val (.ref o2), .val (.int i3), .val (.int x4), .val (.long ((w.toInt64) &&& (255 : Int64))), .second] [(.long (4503599627370495 : Int64)), (.long (((w.toInt64) &&& (255 : Int64)) <<< ((x6).toInt64 &&& 63))), (.long u), (.int x5), (.ref o2)])) _
  refine XS.land X0.here hx rfl (hb hby d2_52) rfl ?_
  show Steps p.tables e below (T0.setTop (mkF m 53 #[.val (.ref o0), .val (.int i1), .val (.ref o2), .val (.int i3), .val (.int x4), .val (.long ((w.toInt64) &&& (255 : Int64))), .second] [(.long ((((w.toInt64) &&& (255 : Int64)) <<< ((x6).toInt64 &&& 63)) &&& (4503599627370495 : Int64))), (.long u), (.int x5), (.ref o2)])) _
  refine XS.lor X0.here hx rfl (hb hby d2_53) rfl ?_
  exact kt
theorem d2_55 : decode prog_17_method_3_code 55 = .ok (.iload 4, 2) := by decide +kernel
theorem d2_57 : decode prog_17_method_3_code 57 = .ok (.bipush 52, 2) := by decide +kernel
theorem d2_59 : decode prog_17_method_3_code 59 = .ok (.irem, 1) := by decide +kernel
theorem d2_60 : decode prog_17_method_3_code 60 = .ok (.bipush 44, 2) := by decide +kernel
theorem d2_62 : decode prog_17_method_3_code 62 = .ok (.if_icmp .le 26, 3) := by decide +kernel
theorem d2_88 : decode prog_17_method_3_code 88 = .ok (.iinc 3 1, 3) := by decide +kernel
theorem d2_91 : decode prog_17_method_3_code 91 = .ok (.goto (-85), 3) := by decide +kernel
set_option maxRecDepth 65536 in
set_option maxHeartbeats 40000000 in
theorem sgB {p : Program} {l : Launch} {e : Env} {R : Room} {s : State} {m : MethodId} {args : Array Value} {below : List Frame} {meth : Method} {c : Code} {T0 : State} {locs : List Loc} {cells slots : Nat} {Z : State} {a0 : Array Value} {h0 : Heap} (o0 o2 : Addr) (i1 i3 x4 x6 : Int32) (y5 : Int64)
    (X0 : Stand p l e R s m args below meth c T0 locs cells slots) (hx : p.tables.exec = Jvm.exec) (hZ : Z.Warmed39 s.vm) (hw : ∀ d ∈ tables_1, d.before a0 Z = true) (hby : c.code = prog_17_method_3_code) (hown : s.vm.findClass "ownclaim/jose/Limbs" = some m.cls) (e0 : T0.heap = h0) (hx6 : x4 % (52 : Int32) = x6) (hc62 : ¬ (44 : Int32) < x6) {target : State} (kt : Steps p.tables e below (T0.setTop (mkF m 6 #[.val (.ref o0), .val (.int i1), .val (.ref o2), .val (.int (i3 + (1 : Int32))), .val (.int x4), .val (.long y5), .second] [])) target) :
    Steps p.tables e below (T0.setTop (mkF m 55 #[.val (.ref o0), .val (.int i1), .val (.ref o2), .val (.int i3), .val (.int x4), .val (.long y5), .second] [])) target := by
  show Steps p.tables e below (T0.setTop (mkF m 55 #[.val (.ref o0), .val (.int i1), .val (.ref o2), .val (.int i3), .val (.int x4), .val (.long y5), .second] [])) _
  refine XS.iload X0.here hx rfl (hb hby d2_55) rfl ?_
  show Steps p.tables e below (T0.setTop (mkF m 57 #[.val (.ref o0), .val (.int i1), .val (.ref o2), .val (.int i3), .val (.int x4), .val (.long y5), .second] [(.int x4)])) _
  refine XS.bipush X0.here hx rfl (hb hby d2_57) ?_
  show Steps p.tables e below (T0.setTop (mkF m 59 #[.val (.ref o0), .val (.int i1), .val (.ref o2), .val (.int i3), .val (.int x4), .val (.long y5), .second] [(.int (52 : Int32)), (.int x4)])) _
  refine iremM (g := (mkF m 59 #[.val (.ref o0), .val (.int i1), .val (.ref o2), .val (.int i3), .val (.int x4), .val (.long y5), .second] [(.int (52 : Int32)), (.int x4)])) X0 hx rfl (hb hby d2_59) rfl (by decide) ?_
  show Steps p.tables e below (T0.setTop (mkF m 60 #[.val (.ref o0), .val (.int i1), .val (.ref o2), .val (.int i3), .val (.int x4), .val (.long y5), .second] [(.int (x4 % (52 : Int32)))])) _
  rw [hx6]
  show Steps p.tables e below (T0.setTop (mkF m 60 #[.val (.ref o0), .val (.int i1), .val (.ref o2), .val (.int i3), .val (.int x4), .val (.long y5), .second] [(.int x6)])) _
  refine XS.bipush X0.here hx rfl (hb hby d2_60) ?_
  show Steps p.tables e below (T0.setTop (mkF m 62 #[.val (.ref o0), .val (.int i1), .val (.ref o2), .val (.int i3), .val (.int x4), .val (.long y5), .second] [(.int (44 : Int32)), (.int x6)])) _
  refine XS.icmpYes X0.here hx rfl (pc0 := 62) (pc' := 88) rfl (hb hby d2_62) rfl (flt hc62).2.2.2 (by decide) (by decide) ?_
  show Steps p.tables e below (T0.setTop (mkF m 88 #[.val (.ref o0), .val (.int i1), .val (.ref o2), .val (.int i3), .val (.int x4), .val (.long y5), .second] [])) _
  refine XS.iinc X0.here hx rfl (hb hby d2_88) rfl (l' := #[.val (.ref o0), .val (.int i1), .val (.ref o2), .val (.int (i3 + (1 : Int32))), .val (.int x4), .val (.long y5), .second]) rfl ?_
  show Steps p.tables e below (T0.setTop (mkF m 91 #[.val (.ref o0), .val (.int i1), .val (.ref o2), .val (.int (i3 + (1 : Int32))), .val (.int x4), .val (.long y5), .second] [])) _
  refine XS.goto X0.here hx rfl (pc0 := 91) (pc' := 6) rfl (hb hby d2_91) (by decide) (by decide) ?_
  exact kt
theorem d2_65 : decode prog_17_method_3_code 65 = .ok (.aload_n 2, 1) := by decide +kernel
theorem d2_66 : decode prog_17_method_3_code 66 = .ok (.iload 4, 2) := by decide +kernel
theorem d2_68 : decode prog_17_method_3_code 68 = .ok (.bipush 52, 2) := by decide +kernel
theorem d2_70 : decode prog_17_method_3_code 70 = .ok (.idiv, 1) := by decide +kernel
theorem d2_71 : decode prog_17_method_3_code 71 = .ok (.iconst 1, 1) := by decide +kernel
theorem d2_72 : decode prog_17_method_3_code 72 = .ok (.iadd, 1) := by decide +kernel
theorem d2_73 : decode prog_17_method_3_code 73 = .ok (.dup2, 1) := by decide +kernel
theorem d2_74 : decode prog_17_method_3_code 74 = .ok (.laload, 1) := by decide +kernel
theorem d2_75 : decode prog_17_method_3_code 75 = .ok (.lload 5, 2) := by decide +kernel
theorem d2_77 : decode prog_17_method_3_code 77 = .ok (.bipush 52, 2) := by decide +kernel
theorem d2_79 : decode prog_17_method_3_code 79 = .ok (.iload 4, 2) := by decide +kernel
theorem d2_81 : decode prog_17_method_3_code 81 = .ok (.bipush 52, 2) := by decide +kernel
theorem d2_83 : decode prog_17_method_3_code 83 = .ok (.irem, 1) := by decide +kernel
theorem d2_84 : decode prog_17_method_3_code 84 = .ok (.isub, 1) := by decide +kernel
theorem d2_85 : decode prog_17_method_3_code 85 = .ok (.lushr, 1) := by decide +kernel
theorem d2_86 : decode prog_17_method_3_code 86 = .ok (.lor, 1) := by decide +kernel
set_option maxRecDepth 65536 in
set_option maxHeartbeats 40000000 in
theorem sgC {p : Program} {l : Launch} {e : Env} {R : Room} {s : State} {m : MethodId} {args : Array Value} {below : List Frame} {meth : Method} {c : Code} {T0 : State} {locs : List Loc} {cells slots : Nat} {Z : State} {a0 : Array Value} {h0 : Heap} (o0 o2 : Addr) (i1 i3 x4 x5 x6 x8 x9 : Int32) (y5 u : Int64) (cl2 : Cell)
    (X0 : Stand p l e R s m args below meth c T0 locs cells slots) (hx : p.tables.exec = Jvm.exec) (hZ : Z.Warmed39 s.vm) (hw : ∀ d ∈ tables_1, d.before a0 Z = true) (hby : c.code = prog_17_method_3_code) (hown : s.vm.findClass "ownclaim/jose/Limbs" = some m.cls) (e0 : T0.heap = h0) (Ar2 : Arr Z h0 o2 cl2 .long) (hin2 : ¬ (x8 < 0 ∨ cl2.slots.size ≤ x8.toNatClampNeg)) (hat2 : cl2.slots[x8.toNatClampNeg]? = some (.long u)) (hx5 : x4 / (52 : Int32) = x5) (hx6 : x4 % (52 : Int32) = x6) (hx8 : x5 + (1 : Int32) = x8) (hx9 : (52 : Int32) - x6 = x9) (hc62 : (44 : Int32) < x6) {target : State} (kt : Steps p.tables e below (T0.setTop (mkF m 87 #[.val (.ref o0), .val (.int i1), .val (.ref o2), .val (.int i3), .val (.int x4), .val (.long y5), .second] [(.long (u ||| (XT.ushrL y5 x9))), (.int x8), (.ref o2)])) target) :
    Steps p.tables e below (T0.setTop (mkF m 55 #[.val (.ref o0), .val (.int i1), .val (.ref o2), .val (.int i3), .val (.int x4), .val (.long y5), .second] [])) target := by
  show Steps p.tables e below (T0.setTop (mkF m 55 #[.val (.ref o0), .val (.int i1), .val (.ref o2), .val (.int i3), .val (.int x4), .val (.long y5), .second] [])) _
  refine XS.iload X0.here hx rfl (hb hby d2_55) rfl ?_
  show Steps p.tables e below (T0.setTop (mkF m 57 #[.val (.ref o0), .val (.int i1), .val (.ref o2), .val (.int i3), .val (.int x4), .val (.long y5), .second] [(.int x4)])) _
  refine XS.bipush X0.here hx rfl (hb hby d2_57) ?_
  show Steps p.tables e below (T0.setTop (mkF m 59 #[.val (.ref o0), .val (.int i1), .val (.ref o2), .val (.int i3), .val (.int x4), .val (.long y5), .second] [(.int (52 : Int32)), (.int x4)])) _
  refine iremM (g := (mkF m 59 #[.val (.ref o0), .val (.int i1), .val (.ref o2), .val (.int i3), .val (.int x4), .val (.long y5), .second] [(.int (52 : Int32)), (.int x4)])) X0 hx rfl (hb hby d2_59) rfl (by decide) ?_
  show Steps p.tables e below (T0.setTop (mkF m 60 #[.val (.ref o0), .val (.int i1), .val (.ref o2), .val (.int i3), .val (.int x4), .val (.long y5), .second] [(.int (x4 % (52 : Int32)))])) _
  rw [hx6]
  show Steps p.tables e below (T0.setTop (mkF m 60 #[.val (.ref o0), .val (.int i1), .val (.ref o2), .val (.int i3), .val (.int x4), .val (.long y5), .second] [(.int x6)])) _
  refine XS.bipush X0.here hx rfl (hb hby d2_60) ?_
  show Steps p.tables e below (T0.setTop (mkF m 62 #[.val (.ref o0), .val (.int i1), .val (.ref o2), .val (.int i3), .val (.int x4), .val (.long y5), .second] [(.int (44 : Int32)), (.int x6)])) _
  refine XS.icmpNo X0.here hx rfl (hb hby d2_62) rfl (tlt hc62).2.2.2 ?_
  show Steps p.tables e below (T0.setTop (mkF m 65 #[.val (.ref o0), .val (.int i1), .val (.ref o2), .val (.int i3), .val (.int x4), .val (.long y5), .second] [])) _
  refine XS.aloadN X0.here hx rfl (hb hby d2_65) rfl rfl ?_
  show Steps p.tables e below (T0.setTop (mkF m 66 #[.val (.ref o0), .val (.int i1), .val (.ref o2), .val (.int i3), .val (.int x4), .val (.long y5), .second] [(.ref o2)])) _
  refine XS.iload X0.here hx rfl (hb hby d2_66) rfl ?_
  show Steps p.tables e below (T0.setTop (mkF m 68 #[.val (.ref o0), .val (.int i1), .val (.ref o2), .val (.int i3), .val (.int x4), .val (.long y5), .second] [(.int x4), (.ref o2)])) _
  refine XS.bipush X0.here hx rfl (hb hby d2_68) ?_
  show Steps p.tables e below (T0.setTop (mkF m 70 #[.val (.ref o0), .val (.int i1), .val (.ref o2), .val (.int i3), .val (.int x4), .val (.long y5), .second] [(.int (52 : Int32)), (.int x4), (.ref o2)])) _
  refine XS.idiv X0.here hx rfl (hb hby d2_70) rfl (by decide) ?_
  show Steps p.tables e below (T0.setTop (mkF m 71 #[.val (.ref o0), .val (.int i1), .val (.ref o2), .val (.int i3), .val (.int x4), .val (.long y5), .second] [(.int (x4 / (52 : Int32))), (.ref o2)])) _
  rw [hx5]
  show Steps p.tables e below (T0.setTop (mkF m 71 #[.val (.ref o0), .val (.int i1), .val (.ref o2), .val (.int i3), .val (.int x4), .val (.long y5), .second] [(.int x5), (.ref o2)])) _
  refine XS.iconst X0.here hx rfl (hb hby d2_71) ?_
  show Steps p.tables e below (T0.setTop (mkF m 72 #[.val (.ref o0), .val (.int i1), .val (.ref o2), .val (.int i3), .val (.int x4), .val (.long y5), .second] [(.int (1 : Int32)), (.int x5), (.ref o2)])) _
  refine XS.iadd X0.here hx rfl (hb hby d2_72) rfl ?_
  show Steps p.tables e below (T0.setTop (mkF m 73 #[.val (.ref o0), .val (.int i1), .val (.ref o2), .val (.int i3), .val (.int x4), .val (.long y5), .second] [(.int (x5 + (1 : Int32))), (.ref o2)])) _
  rw [hx8]
  show Steps p.tables e below (T0.setTop (mkF m 73 #[.val (.ref o0), .val (.int i1), .val (.ref o2), .val (.int i3), .val (.int x4), .val (.long y5), .second] [(.int x8), (.ref o2)])) _
  refine XT.dup2 X0.here hx rfl (hb hby d2_73) rfl rfl rfl ?_
  show Steps p.tables e below (T0.setTop (mkF m 74 #[.val (.ref o0), .val (.int i1), .val (.ref o2), .val (.int i3), .val (.int x4), .val (.long y5), .second] [(.int x8), (.ref o2), (.int x8), (.ref o2)])) _
  refine X0.laload hx (j := x8) (v := (.long u)) (by rw [e0]; exact Ar2.1) (State.isArrayOf_alike hZ.alike Ar2.2.1) Ar2.2.2 hin2 hat2 (g := (mkF m 74 #[.val (.ref o0), .val (.int i1), .val (.ref o2), .val (.int i3), .val (.int x4), .val (.long y5), .second] [(.int x8), (.ref o2), (.int x8), (.ref o2)])) rfl rfl (hb hby d2_74) _ ?_
  show Steps p.tables e below (T0.setTop (mkF m 75 #[.val (.ref o0), .val (.int i1), .val (.ref o2), .val (.int i3), .val (.int x4), .val (.long y5), .second] [(.long u), (.int x8), (.ref o2)])) _
  refine XS.lload X0.here hx rfl (hb hby d2_75) rfl ?_
  show Steps p.tables e below (T0.setTop (mkF m 77 #[.val (.ref o0), .val (.int i1), .val (.ref o2), .val (.int i3), .val (.int x4), .val (.long y5), .second] [(.long y5), (.long u), (.int x8), (.ref o2)])) _
  refine XS.bipush X0.here hx rfl (hb hby d2_77) ?_
  show Steps p.tables e below (T0.setTop (mkF m 79 #[.val (.ref o0), .val (.int i1), .val (.ref o2), .val (.int i3), .val (.int x4), .val (.long y5), .second] [(.int (52 : Int32)), (.long y5), (.long u), (.int x8), (.ref o2)])) _
  refine XS.iload X0.here hx rfl (hb hby d2_79) rfl ?_
  show Steps p.tables e below (T0.setTop (mkF m 81 #[.val (.ref o0), .val (.int i1), .val (.ref o2), .val (.int i3), .val (.int x4), .val (.long y5), .second] [(.int x4), (.int (52 : Int32)), (.long y5), (.long u), (.int x8), (.ref o2)])) _
  refine XS.bipush X0.here hx rfl (hb hby d2_81) ?_
  show Steps p.tables e below (T0.setTop (mkF m 83 #[.val (.ref o0), .val (.int i1), .val (.ref o2), .val (.int i3), .val (.int x4), .val (.long y5), .second] [(.int (52 : Int32)), (.int x4), (.int (52 : Int32)), (.long y5), (.long u), (.int x8), (.ref o2)])) _
  refine iremM (g := (mkF m 83 #[.val (.ref o0), .val (.int i1), .val (.ref o2), .val (.int i3), .val (.int x4), .val (.long y5), .second] [(.int (52 : Int32)), (.int x4), (.int (52 : Int32)), (.long y5), (.long u), (.int x8), (.ref o2)])) X0 hx rfl (hb hby d2_83) rfl (by decide) ?_
  show Steps p.tables e below (T0.setTop (mkF m 84 #[.val (.ref o0), .val (.int i1), .val (.ref o2), .val (.int i3), .val (.int x4), .val (.long y5), .second] [(.int (x4 % (52 : Int32))), (.int (52 : Int32)), (.long y5), (.long u), (.int x8), (.ref o2)])) _
  rw [hx6]
  show Steps p.tables e below (T0.setTop (mkF m 84 #[.val (.ref o0), .val (.int i1), .val (.ref o2), .val (.int i3), .val (.int x4), .val (.long y5), .second] [(.int x6), (.int (52 : Int32)), (.long y5), (.long u), (.int x8), (.ref o2)])) _
  refine XS.isub X0.here hx rfl (hb hby d2_84) rfl ?_
  show Steps p.tables e below (T0.setTop (mkF m 85 #[.val (.ref o0), .val (.int i1), .val (.ref o2), .val (.int i3), .val (.int x4), .val (.long y5), .second] [(.int ((52 : Int32) - x6)), (.long y5), (.long u), (.int x8), (.ref o2)])) _
  rw [hx9]
  show Steps p.tables e below (T0.setTop (mkF m 85 #[.val (.ref o0), .val (.int i1), .val (.ref o2), .val (.int i3), .val (.int x4), .val (.long y5), .second] [(.int x9), (.long y5), (.long u), (.int x8), (.ref o2)])) _
  refine XT.lushr X0.here hx rfl (hb hby d2_85) rfl ?_
  show Steps p.tables e below (T0.setTop (mkF m 86 #[.val (.ref o0), .val (.int i1), .val (.ref o2), .val (.int i3), .val (.int x4), .val (.long y5), .second] [(.long (XT.ushrL y5 x9)), (.long u), (.int x8), (.ref o2)])) _
  refine XS.lor X0.here hx rfl (hb hby d2_86) rfl ?_
  exact kt
set_option maxRecDepth 65536 in
set_option maxHeartbeats 40000000 in
theorem sgD {p : Program} {l : Launch} {e : Env} {R : Room} {s : State} {m : MethodId} {args : Array Value} {below : List Frame} {meth : Method} {c : Code} {T0 : State} {locs : List Loc} {cells slots : Nat} {Z : State} {a0 : Array Value} {h0 : Heap} (o0 o2 : Addr) (i1 i3 x4 : Int32) (y5 : Int64)
    (X0 : Stand p l e R s m args below meth c T0 locs cells slots) (hx : p.tables.exec = Jvm.exec) (hZ : Z.Warmed39 s.vm) (hw : ∀ d ∈ tables_1, d.before a0 Z = true) (hby : c.code = prog_17_method_3_code) (hown : s.vm.findClass "ownclaim/jose/Limbs" = some m.cls) (e0 : T0.heap = h0)  {target : State} (kt : Steps p.tables e below (T0.setTop (mkF m 6 #[.val (.ref o0), .val (.int i1), .val (.ref o2), .val (.int (i3 + (1 : Int32))), .val (.int x4), .val (.long y5), .second] [])) target) :
    Steps p.tables e below (T0.setTop (mkF m 88 #[.val (.ref o0), .val (.int i1), .val (.ref o2), .val (.int i3), .val (.int x4), .val (.long y5), .second] [])) target := by
  show Steps p.tables e below (T0.setTop (mkF m 88 #[.val (.ref o0), .val (.int i1), .val (.ref o2), .val (.int i3), .val (.int x4), .val (.long y5), .second] [])) _
  refine XS.iinc X0.here hx rfl (hb hby d2_88) rfl (l' := #[.val (.ref o0), .val (.int i1), .val (.ref o2), .val (.int (i3 + (1 : Int32))), .val (.int x4), .val (.long y5), .second]) rfl ?_
  show Steps p.tables e below (T0.setTop (mkF m 91 #[.val (.ref o0), .val (.int i1), .val (.ref o2), .val (.int (i3 + (1 : Int32))), .val (.int x4), .val (.long y5), .second] [])) _
  refine XS.goto X0.here hx rfl (pc0 := 91) (pc' := 6) rfl (hb hby d2_91) (by decide) (by decide) ?_
  exact kt
set_option maxRecDepth 65536 in
set_option maxHeartbeats 40000000 in
theorem sgO {p : Program} {l : Launch} {e : Env} {R : Room} {s : State} {m : MethodId} {args : Array Value} {below : List Frame} {meth : Method} {c : Code} {T0 : State} {locs : List Loc} {cells slots : Nat} {Z : State} {a0 : Array Value} {h0 : Heap} (o0 o2 : Addr) (i1 i3 : Int32) (s4 s5 s6 : Slot)
    (X0 : Stand p l e R s m args below meth c T0 locs cells slots) (hx : p.tables.exec = Jvm.exec) (hZ : Z.Warmed39 s.vm) (hw : ∀ d ∈ tables_1, d.before a0 Z = true) (hby : c.code = prog_17_method_3_code) (hown : s.vm.findClass "ownclaim/jose/Limbs" = some m.cls) (e0 : T0.heap = h0) (hc9 : ¬ i3 < (32 : Int32)) {target : State} (kt : Steps p.tables e below (T0.setTop (mkF m 94 #[.val (.ref o0), .val (.int i1), .val (.ref o2), .val (.int i3), s4, s5, s6] [])) target) :
    Steps p.tables e below (T0.setTop (mkF m 6 #[.val (.ref o0), .val (.int i1), .val (.ref o2), .val (.int i3), s4, s5, s6] [])) target := by
  show Steps p.tables e below (T0.setTop (mkF m 6 #[.val (.ref o0), .val (.int i1), .val (.ref o2), .val (.int i3), s4, s5, s6] [])) _
  refine XS.iloadN X0.here hx rfl (hb hby d2_6) rfl ?_
  show Steps p.tables e below (T0.setTop (mkF m 7 #[.val (.ref o0), .val (.int i1), .val (.ref o2), .val (.int i3), s4, s5, s6] [(.int i3)])) _
  refine XS.bipush X0.here hx rfl (hb hby d2_7) ?_
  show Steps p.tables e below (T0.setTop (mkF m 9 #[.val (.ref o0), .val (.int i1), .val (.ref o2), .val (.int i3), s4, s5, s6] [(.int (32 : Int32)), (.int i3)])) _
  refine XS.icmpYes X0.here hx rfl (pc0 := 9) (pc' := 94) rfl (hb hby d2_9) rfl (flt hc9).2.1 (by decide) (by decide) ?_
  exact kt
theorem d2_0 : decode prog_17_method_3_code 0 = .ok (.iconst 5, 1) := by decide +kernel
theorem d2_1 : decode prog_17_method_3_code 1 = .ok (.newarray .long, 2) := by decide +kernel
theorem d2_3 : decode prog_17_method_3_code 3 = .ok (.astore_n 2, 1) := by decide +kernel
theorem d2_4 : decode prog_17_method_3_code 4 = .ok (.iconst 0, 1) := by decide +kernel
theorem d2_5 : decode prog_17_method_3_code 5 = .ok (.istore_n 3, 1) := by decide +kernel
theorem d2_54 : decode prog_17_method_3_code 54 = .ok (.lastore, 1) := by decide +kernel
theorem d2_87 : decode prog_17_method_3_code 87 = .ok (.lastore, 1) := by decide +kernel
theorem d2_94 : decode prog_17_method_3_code 94 = .ok (.aload_n 2, 1) := by decide +kernel
theorem d2_95 : decode prog_17_method_3_code 95 = .ok (.areturn, 1) := by decide +kernel
set_option maxRecDepth 65536 in
set_option maxHeartbeats 40000000 in
theorem own_loop2 {p : Program} {l : Launch} {e : Env} {R : Room} {s : State} {m : MethodId} {args : Array Value} {below : List Frame} {meth : Method} {c : Code} {cells slots : Nat} {Z : State} {a0 : Array Value} {n0 : Nat} (o0 o2 : Addr) (o : Nat) (B : Nat → Int32)
    (hx : p.tables.exec = Jvm.exec) (hZ : Z.Warmed39 s.vm) (hw : ∀ d ∈ tables_1, d.before a0 Z = true) (hby : c.code = prog_17_method_3_code) (hown : s.vm.findClass "ownclaim/jose/Limbs" = some m.cls) (ho : o ≤ 8) (ne0 : o0 ≠ o2) (g2 : n0 ≤ o2) (k : Nat) :
    ∀ (i : Nat) (T0 : State) (h0 : Heap) (locs : List Loc) (s4 s5 s6 : Slot), ((s4 = .unset ∧ s5 = .unset ∧ s6 = .unset) ∨ ∃ (x : Int32) (y : Int64), s4 = .val (.int x) ∧ s5 = .val (.long y) ∧ s6 = .second) → i + k = 32 → Stand p l e R s m args below meth c T0 locs cells slots → T0.heap = h0 → Fr n0 locs → AF Z h0 o0 .byte 40 (fun j => .int (B j)) → AF Z h0 o2 .long 5 (fun j => .long (own_v (own_b B o) i j)) →
    ∃ (T' : State) (h' : Heap) (locs' : List Loc) (t4 t5 t6 : Slot), Stand p l e R s m args below meth c T' locs' cells slots ∧ T'.heap = h' ∧ Fr n0 locs' ∧ Keep h0 h' [o2] ∧ AF Z h' o2 .long 5 (fun j => .long (own_v (own_b B o) 32 j)) ∧
      ∀ target, Steps p.tables e below (T'.setTop (mkF m 94 #[.val (.ref o0), .val (.int (Int32.ofNat o)), .val (.ref o2), .val (.int (Int32.ofNat 32)), t4, t5, t6] [])) target → Steps p.tables e below (T0.setTop (mkF m 6 #[.val (.ref o0), .val (.int (Int32.ofNat o)), .val (.ref o2), .val (.int (Int32.ofNat i)), s4, s5, s6] [])) target := by
  induction k with
  | zero =>
    intro i T0 h0 locs s4 s5 s6 hs hik X0 e0 NF V0 V2
    obtain rfl : i = 32 := by omega
    exact ⟨T0, h0, locs, s4, s5, s6, X0, e0, NF, Keep.refl _ _, V2, fun target kt => sgO o0 o2 (Int32.ofNat o) (Int32.ofNat 32) s4 s5 s6 X0 hx hZ hw hby hown e0 (by decide) kt⟩
  | succ k ih =>
    intro i T0 h0 locs s4 s5 s6 hs hik X0 e0 NF V0 V2
    have hi : i < 32 := by omega
    have hp := own_pos_lt hi
    obtain ⟨cl0, Ar0, S0, H0⟩ := V0
    obtain ⟨cl2, Ar2, S2, H2⟩ := V2
    have c7 : (Int32.ofNat (o + i)).toNatClampNeg = o + i := clamp_of rfl (by omega)
    have c5 : (Int32.ofNat (own_pos i / 52)).toNatClampNeg = (own_pos i / 52) := clamp_of rfl (by omega)
    have hin0 : ¬ (Int32.ofNat (o + i) < 0 ∨ cl0.slots.size ≤ (Int32.ofNat (o + i)).toNatClampNeg) := by rw [S0]; exact within rfl (by omega) (by omega)
    have hat0 : cl0.slots[(Int32.ofNat (o + i)).toNatClampNeg]? = some (.int (B (o + i))) := by rw [c7]; exact H0 (o + i) (by omega)
    have hin2 : ¬ (Int32.ofNat (own_pos i / 52) < 0 ∨ cl2.slots.size ≤ (Int32.ofNat (own_pos i / 52)).toNatClampNeg) := by rw [S2]; exact within rfl (by omega) (by omega)
    have hat2 : cl2.slots[(Int32.ofNat (own_pos i / 52)).toNatClampNeg]? = some (.long (own_v (own_b B o) i (own_pos i / 52))) := by rw [c5]; exact H2 _ (by omega)
    have hc9 : Int32.ofNat i < (32 : Int32) := own_lt32 hi
    obtain ⟨T1, h1, X1, e1, W1, st1⟩ := stJ X0 hx hZ e0 Ar2 (j := Int32.ofNat (own_pos i / 52)) hin2 (g := (mkF m 54 #[.val (.ref o0), .val (.int (Int32.ofNat o)), .val (.ref o2), .val (.int (Int32.ofNat i)), .val (.int (Int32.ofNat (own_pos i))), .val (.long (own_b B o i)), .second] [(.long (own_v (own_b B o) i (own_pos i / 52) ||| ((own_b B o i <<< ((Int32.ofNat (own_pos i % 52)).toInt64 &&& 63)) &&& (4503599627370495 : Int64)))), (.int (Int32.ofNat (own_pos i / 52))), (.ref o2)])) rfl rfl (hb hby d2_54)
    have NF1 := Fr.snoc X1 NF g2
    rw [c5] at W1
    have U2 := AF.set (⟨cl2, Ar2, S2, H2⟩ : AF Z h0 o2 .long 5 (fun j => .long (own_v (own_b B o) i j))) W1
    have U0 : AF Z h1 o0 .byte 40 (fun j => .int (B j)) := AF.other ⟨cl0, Ar0, S0, H0⟩ W1 ne0
    have stA : ∀ target, Steps p.tables e below (T0.setTop (mkF m 54 #[.val (.ref o0), .val (.int (Int32.ofNat o)), .val (.ref o2), .val (.int (Int32.ofNat i)), .val (.int (Int32.ofNat (own_pos i))), .val (.long (own_b B o i)), .second] [(.long (own_v (own_b B o) i (own_pos i / 52) ||| ((own_b B o i <<< ((Int32.ofNat (own_pos i % 52)).toInt64 &&& 63)) &&& (4503599627370495 : Int64)))), (.int (Int32.ofNat (own_pos i / 52))), (.ref o2)])) target → Steps p.tables e below (T0.setTop (mkF m 6 #[.val (.ref o0), .val (.int (Int32.ofNat o)), .val (.ref o2), .val (.int (Int32.ofNat i)), s4, s5, s6] [])) target := by
      intro target kt
      rcases hs with ⟨rfl, rfl, rfl⟩ | ⟨y4, y5, rfl, rfl, rfl⟩
      · exact sgA_u o0 o2 (Int32.ofNat o) (Int32.ofNat i) (Int32.ofNat (own_pos i)) (Int32.ofNat (own_pos i / 52)) (Int32.ofNat (own_pos i % 52)) (Int32.ofNat (o + i)) (B (o + i)) _ cl0 cl2 X0 hx hZ hw hby hown e0 Ar0 Ar2 hin0 hat0 hin2 hat2 (own_x4 hi) (own_x5 hi) (own_x6 hi) (own_x7 o i) hc9 kt
      · exact sgA_s o0 o2 (Int32.ofNat o) (Int32.ofNat i) (Int32.ofNat (own_pos i)) (Int32.ofNat (own_pos i / 52)) (Int32.ofNat (own_pos i % 52)) (Int32.ofNat (o + i)) (B (o + i)) _ cl0 cl2 y4 y5 X0 hx hZ hw hby hown e0 Ar0 Ar2 hin0 hat0 hin2 hat2 (own_x4 hi) (own_x5 hi) (own_x6 hi) (own_x7 o i) hc9 kt
    by_cases hr : 44 < (own_pos i % 52)
    · obtain ⟨cl3, Ar3, S3, H3⟩ := U2
      have c8 : (Int32.ofNat ((own_pos i / 52) + 1)).toNatClampNeg = (own_pos i / 52) + 1 := clamp_of rfl (by omega)
      have hq1 := own_q1 hi hr
      have hin3 : ¬ (Int32.ofNat ((own_pos i / 52) + 1) < 0 ∨ cl3.slots.size ≤ (Int32.ofNat ((own_pos i / 52) + 1)).toNatClampNeg) := by rw [S3]; exact within rfl (by omega) (by omega)
      have hat3 : cl3.slots[(Int32.ofNat ((own_pos i / 52) + 1)).toNatClampNeg]? = some (.long (own_v (own_b B o) i ((own_pos i / 52) + 1))) := by rw [c8, H3 _ (by omega)]; simp
      obtain ⟨T2, h2, X2, e2, W2, st2⟩ := stJ X1 hx hZ e1 Ar3 (j := Int32.ofNat ((own_pos i / 52) + 1)) hin3 (g := (mkF m 87 #[.val (.ref o0), .val (.int (Int32.ofNat o)), .val (.ref o2), .val (.int (Int32.ofNat i)), .val (.int (Int32.ofNat (own_pos i))), .val (.long (own_b B o i)), .second] [(.long (own_v (own_b B o) i ((own_pos i / 52) + 1) ||| XT.ushrL (own_b B o i) (Int32.ofNat (52 - (own_pos i % 52))))), (.int (Int32.ofNat ((own_pos i / 52) + 1))), (.ref o2)])) rfl rfl (hb hby d2_87)
      have NF2 := Fr.snoc X2 NF1 g2
      rw [c8] at W2
      have U3 := (AF.set (⟨cl3, Ar3, S3, H3⟩ : AF Z h1 o2 .long 5 _) W2).congr (g := fun j => .long (own_v (own_b B o) (i + 1) j)) (fun j hj => own_v_b (own_b B o) i j hr)
      obtain ⟨T', h', locs', t4, t5, t6, X', e', NF', K', V', st'⟩ := ih (i + 1) T2 h2 _ _ _ _ (Or.inr ⟨Int32.ofNat (own_pos i), own_b B o i, rfl, rfl, rfl⟩) (by omega) X2 e2 NF2 (U0.other W2 ne0) U3
      refine ⟨T', h', locs', t4, t5, t6, X', e', NF', ((Keep.of_wr W1).trans (Keep.of_wr W2) (fun x hx => Or.inl hx)).trans K' (fun x hx => Or.inl hx), V', fun target kt => ?_⟩
      refine stA _ ?_
      refine st1 _ ?_
      refine sgC o0 o2 (Int32.ofNat o) (Int32.ofNat i) (Int32.ofNat (own_pos i)) (Int32.ofNat (own_pos i / 52)) (Int32.ofNat (own_pos i % 52)) (Int32.ofNat ((own_pos i / 52) + 1)) (Int32.ofNat (52 - (own_pos i % 52))) (own_b B o i) _ cl3 X1 hx hZ hw hby hown e1 Ar3 hin3 hat3 (own_x5 hi) (own_x6 hi) (inc_ofNat _).symm (own_x9 hi) (own_44 hi hr) ?_
      refine st2 _ ?_
      refine sgD o0 o2 (Int32.ofNat o) (Int32.ofNat i) (Int32.ofNat (own_pos i)) (own_b B o i) X2 hx hZ hw hby hown e2 ?_
      rw [← inc_ofNat]
      exact st' target kt
    · have U3 := U2.congr (g := fun j => .long (own_v (own_b B o) (i + 1) j)) (fun j hj => own_v_a (own_b B o) i j hr)
      obtain ⟨T', h', locs', t4, t5, t6, X', e', NF', K', V', st'⟩ := ih (i + 1) T1 h1 _ _ _ _ (Or.inr ⟨Int32.ofNat (own_pos i), own_b B o i, rfl, rfl, rfl⟩) (by omega) X1 e1 NF1 U0 U3
      refine ⟨T', h', locs', t4, t5, t6, X', e', NF', (Keep.of_wr W1).trans K' (fun x hx => Or.inl hx), V', fun target kt => ?_⟩
      refine stA _ ?_
      refine st1 _ ?_
      refine sgB o0 o2 (Int32.ofNat o) (Int32.ofNat i) (Int32.ofNat (own_pos i)) (Int32.ofNat (own_pos i % 52)) (own_b B o i) X1 hx hZ hw hby hown e1 (own_x6 hi) (own_n44 hi hr) ?_
      rw [← inc_ofNat]
      exact st' target kt
theorem pn_2 : plainName "ownclaim/jose/Limbs" = true := by first | (simp [plainName, overriddenIn]; done) | decide +kernel
theorem ef_2 (m : MethodId) (x0 : Addr) (x1 : Int32) : entryFrame m #[(.ref x0), (.int x1)] 7 = mkF m 0 #[.val (.ref x0), .val (.int x1), .unset, .unset, .unset, .unset, .unset] [] := by first | (simp [entryFrame, mkF, argsToLocals, Value.category]; done) | rfl
def Q2 (Z : State) (o : Nat) (B : Nat → Int32) (h0 : Heap) (n0 : Nat) (v : Option Value) (h : Heap) (L : List Loc) : Prop := v = some (.ref h0.size) ∧ Fr n0 L ∧ Keep h0 h [] ∧ AF Z h h0.size .long 5 (fun j => .long (own_v (own_b B o) 32 j))
set_option maxRecDepth 65536 in
set_option maxHeartbeats 40000000 in
theorem rm2 (l : Launch) (Z : State) (a0 : Array Value) (hw : ∀ d ∈ tables_1, d.before a0 Z = true) (ws : List Jvm.Cond) (a1 : Addr) (o : Nat) (B : Nat → Int32) (h0 : Heap) (n0 : Nat) (Z0 : n0 ≤ h0.size) (ho : o ≤ 8) (V : AF Z h0 a1 .byte 40 (fun j => .int (B j))) :
    MetFree l (⟨"ownclaim/jose/Limbs", "fromBytes", "([BI)[J"⟩ : MethodName) (head1 (Jvm.Cond.code (⟨"ownclaim/jose/Limbs", "fromBytes", "([BI)[J"⟩ : MethodName) prog_17_method_3_code 7 (some (.array .long)) :: ws) ({ frames := 0, cells := 1, slots := 5, locals := 0 } : Room)) (fun a U => a = #[(.ref a1), (.int (Int32.ofNat o))] ∧ Z.Warmed39 U.vm ∧ U.heap = h0) (fun _ _ _ _ _ => True) (fun _ U o' U' => ∃ v L, o' = .returned v ∧ Q2 Z o B h0 n0 v U'.heap L ∧ FrameEnd U o' U' L ({ frames := 0, cells := 1, slots := 5, locals := 0 } : Room).cells ({ frames := 0, cells := 1, slots := 5, locals := 0 } : Room).slots) := by
  refine MetFree.of_bodySF (plainFor_of_name pn_2) hisR ?_
  intro p e s m args below meth c s₁ Bd hml0 hP hK
  obtain ⟨rfl, hZ, hh0⟩ := hP
  have hx := Bd.exec
  have hby := Bd.bytes
  have hml : c.maxLocals = 7 := hml0
  have hown : s.vm.findClass "ownclaim/jose/Limbs" = some m.cls := findClass_of_methodNamed Bd.named
  have X0 : Stand p l e ({ frames := 0, cells := 1, slots := 5, locals := 0 } : Room) s m #[(.ref a1), (.int (Int32.ofNat o))] below meth c s₁ [] 0 0 := Stand.of_body Bd
  have e0 : s₁.heap = h0 := by rw [← hh0, Bd.state]; rfl
  have N0 := Fr.nil n0
  have pre0 : ∀ t, Steps p.tables e below (s₁.setTop (mkF m 0 #[.val (.ref a1), .val (.int (Int32.ofNat o)), .unset, .unset, .unset, .unset, .unset] [])) t → Steps p.tables e below (s₁.setTop (entryFrame m #[(.ref a1), (.int (Int32.ofNat o))] 7)) t := fun t k => castTop (ef_2 m a1 (Int32.ofNat o)) k
  obtain ⟨T1, h1, k1, X1, e1, E1, A1, st1⟩ := newP X0 hx hZ (hw _ (List.mem_of_getElem? (i := 10) rfl)) e0 (g := (mkF m 1 #[.val (.ref a1), .val (.int (Int32.ofNat o)), .unset, .unset, .unset, .unset, .unset] [(.int (5 : Int32))])) rfl (hb hby d2_1) rfl (by decide) (cap := 5) (by decide) (by decide) (by decide) (by decide)
  have V3 : AF Z h1 h0.size .long 5 (fun _ => .long 0) := AF.new A1 (by decide)
  obtain ⟨T2, h2, L2, t4, t5, t6, X2, e2, N2, K2, V4, st2⟩ := own_loop2 (a0 := a0) a1 h0.size o B hx hZ hw hby hown ho (Nat.ne_of_lt V.lt) Z0 32 0 T1 h1 _ _ _ _ (Or.inl ⟨rfl, rfl, rfl⟩) (by omega) X1 e1 N0 (V.ext E1) (V3.congr (fun j _ => rfl))
  obtain ⟨fs, hr, hrun, hended, hW, hsame⟩ := X2.leave (v := some (.ref h0.size)) (fun h => by rw [Bd.returns] at h; cases h)
  refine ⟨_, _, pre0 _ ?_, hrun, hended, _, _, rfl, ?_, ⟨_, rfl⟩, hW, hsame.mono (by decide) (by decide)⟩
  · show Steps p.tables e below (s₁.setTop (mkF m 0 #[.val (.ref a1), .val (.int (Int32.ofNat o)), .unset, .unset, .unset, .unset, .unset] [])) _
    refine XS.iconst X0.here hx rfl (hb hby d2_0) ?_
    show Steps p.tables e below (s₁.setTop (mkF m 1 #[.val (.ref a1), .val (.int (Int32.ofNat o)), .unset, .unset, .unset, .unset, .unset] [(.int (5 : Int32))])) _
    refine st1 _ ?_
    show Steps p.tables e below (T1.setTop (mkF m 3 #[.val (.ref a1), .val (.int (Int32.ofNat o)), .unset, .unset, .unset, .unset, .unset] [(.ref h0.size)])) _
    refine XS.astoreN X1.here hx rfl (hb hby d2_3) rfl rfl (l' := #[.val (.ref a1), .val (.int (Int32.ofNat o)), .val (.ref h0.size), .unset, .unset, .unset, .unset]) rfl ?_
    show Steps p.tables e below (T1.setTop (mkF m 4 #[.val (.ref a1), .val (.int (Int32.ofNat o)), .val (.ref h0.size), .unset, .unset, .unset, .unset] [])) _
    refine XS.iconst X1.here hx rfl (hb hby d2_4) ?_
    show Steps p.tables e below (T1.setTop (mkF m 5 #[.val (.ref a1), .val (.int (Int32.ofNat o)), .val (.ref h0.size), .unset, .unset, .unset, .unset] [(.int (0 : Int32))])) _
    refine XS.istoreN X1.here hx rfl (hb hby d2_5) rfl (l' := #[.val (.ref a1), .val (.int (Int32.ofNat o)), .val (.ref h0.size), .val (.int (0 : Int32)), .unset, .unset, .unset]) rfl ?_
    refine st2 _ ?_
    show Steps p.tables e below (T2.setTop (mkF m 94 #[.val (.ref a1), .val (.int (Int32.ofNat o)), .val (.ref h0.size), .val (.int (Int32.ofNat 32)), t4, t5, t6] [])) _
    refine XS.aloadN X2.here hx rfl (hb hby d2_94) rfl rfl ?_
    show Steps p.tables e below (T2.setTop (mkF m 95 #[.val (.ref a1), .val (.int (Int32.ofNat o)), .val (.ref h0.size), .val (.int (Int32.ofNat 32)), t4, t5, t6] [(.ref h0.size)])) _
    jvm_step X2.here [X2.here.top, hx, (hb hby d2_95), X2.method', Bd.returns, Value.isRef, FieldType.isReference]
    first | (intro acts; rw [hr _ acts rfl rfl rfl]) | rw [hr _ _ rfl rfl rfl]
    exact Steps.refl _
  · show Q2 Z o B h0 n0 _ T2.heap _
    rw [e2]
    exact ⟨rfl, N2, ((Keep.refl h0 []).ext E1).trans K2 (allS (Or.inr (Nat.le_refl _)) all0), V4⟩
set_option maxRecDepth 65536 in
set_option maxHeartbeats 40000000 in
theorem sg0 {p : Program} {l : Launch} {e : Env} {R : Room} {s : State} {m : MethodId} {args : Array Value} {below : List Frame} {meth : Method} {c : Code} {T0 : State} {locs : List Loc} {cells slots : Nat} {Z : State} {a0 : Array Value} {h0 : Heap} (q1 q2 q3 q4 : Int64) (p5 : Int32) (q6 : Int64)
    (X0 : Stand p l e R s m args below meth c T0 locs cells slots) (hx : p.tables.exec = Jvm.exec) (hZ : Z.Warmed39 s.vm) (hw : ∀ d ∈ tables_1, d.before a0 Z = true) (hby : c.code = code) (hown : s.vm.findClass "ownclaim/jose/LimbsFromBytesPinLaw" = some m.cls) (e0 : T0.heap = h0)  {target : State} (kt : Steps p.tables e below (T0.setTop (mkF m 9 #[.val (.long q1), .second, .val (.long q2), .second, .val (.long q3), .second, .val (.long q4), .second, .val (.int p5), .val (.long q6), .second, .val (.int (p5 &&& (7 : Int32))), .unset, .unset, .unset, .unset, .unset, .unset, .unset, .unset, .unset, .unset, .unset, .unset, .unset, .unset] [(.int (40 : Int32))])) target) :
    Steps p.tables e below (T0.setTop (mkF m 0 #[.val (.long q1), .second, .val (.long q2), .second, .val (.long q3), .second, .val (.long q4), .second, .val (.int p5), .val (.long q6), .second, .unset, .unset, .unset, .unset, .unset, .unset, .unset, .unset, .unset, .unset, .unset, .unset, .unset, .unset, .unset] [])) target := by
  show Steps p.tables e below (T0.setTop (mkF m 0 #[.val (.long q1), .second, .val (.long q2), .second, .val (.long q3), .second, .val (.long q4), .second, .val (.int p5), .val (.long q6), .second, .unset, .unset, .unset, .unset, .unset, .unset, .unset, .unset, .unset, .unset, .unset, .unset, .unset, .unset, .unset] [])) _
  refine XS.iload X0.here hx rfl (hb hby at_0) rfl ?_
  show Steps p.tables e below (T0.setTop (mkF m 2 #[.val (.long q1), .second, .val (.long q2), .second, .val (.long q3), .second, .val (.long q4), .second, .val (.int p5), .val (.long q6), .second, .unset, .unset, .unset, .unset, .unset, .unset, .unset, .unset, .unset, .unset, .unset, .unset, .unset, .unset, .unset] [(.int p5)])) _
  refine XS.bipush X0.here hx rfl (hb hby at_2) ?_
  show Steps p.tables e below (T0.setTop (mkF m 4 #[.val (.long q1), .second, .val (.long q2), .second, .val (.long q3), .second, .val (.long q4), .second, .val (.int p5), .val (.long q6), .second, .unset, .unset, .unset, .unset, .unset, .unset, .unset, .unset, .unset, .unset, .unset, .unset, .unset, .unset, .unset] [(.int (7 : Int32)), (.int p5)])) _
  refine XS.iand X0.here hx rfl (hb hby at_4) rfl ?_
  show Steps p.tables e below (T0.setTop (mkF m 5 #[.val (.long q1), .second, .val (.long q2), .second, .val (.long q3), .second, .val (.long q4), .second, .val (.int p5), .val (.long q6), .second, .unset, .unset, .unset, .unset, .unset, .unset, .unset, .unset, .unset, .unset, .unset, .unset, .unset, .unset, .unset] [(.int (p5 &&& (7 : Int32)))])) _
  refine XS.istore X0.here hx rfl (hb hby at_5) rfl (l' := #[.val (.long q1), .second, .val (.long q2), .second, .val (.long q3), .second, .val (.long q4), .second, .val (.int p5), .val (.long q6), .second, .val (.int (p5 &&& (7 : Int32))), .unset, .unset, .unset, .unset, .unset, .unset, .unset, .unset, .unset, .unset, .unset, .unset, .unset, .unset]) rfl ?_
  show Steps p.tables e below (T0.setTop (mkF m 7 #[.val (.long q1), .second, .val (.long q2), .second, .val (.long q3), .second, .val (.long q4), .second, .val (.int p5), .val (.long q6), .second, .val (.int (p5 &&& (7 : Int32))), .unset, .unset, .unset, .unset, .unset, .unset, .unset, .unset, .unset, .unset, .unset, .unset, .unset, .unset] [])) _
  refine XS.bipush X0.here hx rfl (hb hby at_7) ?_
  exact kt
theorem pd_0_put : parseMethodDescriptor "([BIJ)V" = some ⟨[(.array .byte), .int, .long], none⟩ := by decide +kernel
theorem pd_0_fb : parseMethodDescriptor "([BI)[J" = some ⟨[(.array .byte), .int], some (.array .long)⟩ := by decide +kernel
set_option maxRecDepth 65536 in
set_option maxHeartbeats 40000000 in
theorem sgT {p : Program} {l : Launch} {e : Env} {R : Room} {s : State} {m : MethodId} {args : Array Value} {below : List Frame} {meth : Method} {c : Code} {T0 : State} {locs : List Loc} {cells slots : Nat} {Z : State} {a0 : Array Value} {h0 : Heap} (q1 q2 q3 q4 : Int64) (p5 : Int32) (q6 : Int64) (o : Nat) (ba la : Addr) (v : Nat → Int64) (cA : Cell)
    (X0 : Stand p l e R s m args below meth c T0 locs cells slots) (hx : p.tables.exec = Jvm.exec) (hZ : Z.Warmed39 s.vm) (hw : ∀ d ∈ tables_1, d.before a0 Z = true) (hby : c.code = code) (hown : s.vm.findClass "ownclaim/jose/LimbsFromBytesPinLaw" = some m.cls) (e0 : T0.heap = h0) (ArA : Arr Z h0 la cA .long) (SA : cA.slots.size = 5) (SA' : cA.slots.size = (5 : Int32).toNatClampNeg) (HA : ∀ j, j < 5 → cA.slots[j]? = some (.long (v j))) (hv0 : v 0 = (q4 &&& (4503599627370495 : Int64))) (hv1 : v 1 = ((XT.ushrL q4 (52 : Int32)) ||| ((q3 <<< (((12 : Int32)).toInt64 &&& 63)) &&& (4503599627370495 : Int64)))) (hv2 : v 2 = ((XT.ushrL q3 (40 : Int32)) ||| ((q2 <<< (((24 : Int32)).toInt64 &&& 63)) &&& (4503599627370495 : Int64)))) (hv3 : v 3 = ((XT.ushrL q2 (28 : Int32)) ||| ((q1 <<< (((36 : Int32)).toInt64 &&& 63)) &&& (4503599627370495 : Int64)))) (hv4 : v 4 = (XT.ushrL q1 (16 : Int32))) {target : State} (kt : Steps p.tables e below (T0.setTop (mkF m 218 #[.val (.long q1), .second, .val (.long q2), .second, .val (.long q3), .second, .val (.long q4), .second, .val (.int p5), .val (.long q6), .second, .val (.int (Int32.ofNat o)), .val (.ref ba), .val (.ref la), .val (.long (4503599627370495 : Int64)), .second, .val (.long (q4 &&& (4503599627370495 : Int64))), .second, .val (.long ((XT.ushrL q4 (52 : Int32)) ||| ((q3 <<< (((12 : Int32)).toInt64 &&& 63)) &&& (4503599627370495 : Int64)))), .second, .val (.long ((XT.ushrL q3 (40 : Int32)) ||| ((q2 <<< (((24 : Int32)).toInt64 &&& 63)) &&& (4503599627370495 : Int64)))), .second, .val (.long ((XT.ushrL q2 (28 : Int32)) ||| ((q1 <<< (((36 : Int32)).toInt64 &&& 63)) &&& (4503599627370495 : Int64)))), .second, .val (.long (XT.ushrL q1 (16 : Int32))), .second] [(.int (1 : Int32))])) target) :
    Steps p.tables e below (T0.setTop (mkF m 84 #[.val (.long q1), .second, .val (.long q2), .second, .val (.long q3), .second, .val (.long q4), .second, .val (.int p5), .val (.long q6), .second, .val (.int (Int32.ofNat o)), .val (.ref ba), .unset, .unset, .unset, .unset, .unset, .unset, .unset, .unset, .unset, .unset, .unset, .unset, .unset] [(.ref la)])) target := by
  show Steps p.tables e below (T0.setTop (mkF m 84 #[.val (.long q1), .second, .val (.long q2), .second, .val (.long q3), .second, .val (.long q4), .second, .val (.int p5), .val (.long q6), .second, .val (.int (Int32.ofNat o)), .val (.ref ba), .unset, .unset, .unset, .unset, .unset, .unset, .unset, .unset, .unset, .unset, .unset, .unset, .unset] [(.ref la)])) _
  refine XS.astore X0.here hx rfl (hb hby at_84) rfl rfl (l' := #[.val (.long q1), .second, .val (.long q2), .second, .val (.long q3), .second, .val (.long q4), .second, .val (.int p5), .val (.long q6), .second, .val (.int (Int32.ofNat o)), .val (.ref ba), .val (.ref la), .unset, .unset, .unset, .unset, .unset, .unset, .unset, .unset, .unset, .unset, .unset, .unset]) rfl ?_
  show Steps p.tables e below (T0.setTop (mkF m 86 #[.val (.long q1), .second, .val (.long q2), .second, .val (.long q3), .second, .val (.long q4), .second, .val (.int p5), .val (.long q6), .second, .val (.int (Int32.ofNat o)), .val (.ref ba), .val (.ref la), .unset, .unset, .unset, .unset, .unset, .unset, .unset, .unset, .unset, .unset, .unset, .unset] [])) _
  refine XS.aload X0.here hx rfl (hb hby at_86) rfl rfl ?_
  show Steps p.tables e below (T0.setTop (mkF m 88 #[.val (.long q1), .second, .val (.long q2), .second, .val (.long q3), .second, .val (.long q4), .second, .val (.int p5), .val (.long q6), .second, .val (.int (Int32.ofNat o)), .val (.ref ba), .val (.ref la), .unset, .unset, .unset, .unset, .unset, .unset, .unset, .unset, .unset, .unset, .unset, .unset] [(.ref la)])) _
  refine XS.ifnullNo X0.here hx rfl (hb hby at_88) rfl ?_
  show Steps p.tables e below (T0.setTop (mkF m 91 #[.val (.long q1), .second, .val (.long q2), .second, .val (.long q3), .second, .val (.long q4), .second, .val (.int p5), .val (.long q6), .second, .val (.int (Int32.ofNat o)), .val (.ref ba), .val (.ref la), .unset, .unset, .unset, .unset, .unset, .unset, .unset, .unset, .unset, .unset, .unset, .unset] [])) _
  refine XS.aload X0.here hx rfl (hb hby at_91) rfl rfl ?_
  show Steps p.tables e below (T0.setTop (mkF m 93 #[.val (.long q1), .second, .val (.long q2), .second, .val (.long q3), .second, .val (.long q4), .second, .val (.int p5), .val (.long q6), .second, .val (.int (Int32.ofNat o)), .val (.ref ba), .val (.ref la), .unset, .unset, .unset, .unset, .unset, .unset, .unset, .unset, .unset, .unset, .unset, .unset] [(.ref la)])) _
  refine X0.arraylength hx (by rw [e0]; exact ArA.1) (State.isArrayOf_alike hZ.alike ArA.2.1) (g := (mkF m 93 #[.val (.long q1), .second, .val (.long q2), .second, .val (.long q3), .second, .val (.long q4), .second, .val (.int p5), .val (.long q6), .second, .val (.int (Int32.ofNat o)), .val (.ref ba), .val (.ref la), .unset, .unset, .unset, .unset, .unset, .unset, .unset, .unset, .unset, .unset, .unset, .unset] [(.ref la)])) rfl rfl (hb hby at_93) _ ?_
  rw [len_of SA' (by decide)]
  show Steps p.tables e below (T0.setTop (mkF m 94 #[.val (.long q1), .second, .val (.long q2), .second, .val (.long q3), .second, .val (.long q4), .second, .val (.int p5), .val (.long q6), .second, .val (.int (Int32.ofNat o)), .val (.ref ba), .val (.ref la), .unset, .unset, .unset, .unset, .unset, .unset, .unset, .unset, .unset, .unset, .unset, .unset] [(.int (5 : Int32))])) _
  refine XS.iconst X0.here hx rfl (hb hby at_94) ?_
  show Steps p.tables e below (T0.setTop (mkF m 95 #[.val (.long q1), .second, .val (.long q2), .second, .val (.long q3), .second, .val (.long q4), .second, .val (.int p5), .val (.long q6), .second, .val (.int (Int32.ofNat o)), .val (.ref ba), .val (.ref la), .unset, .unset, .unset, .unset, .unset, .unset, .unset, .unset, .unset, .unset, .unset, .unset] [(.int (5 : Int32)), (.int (5 : Int32))])) _
  refine XS.icmpYes X0.here hx rfl (pc0 := 95) (pc' := 100) rfl (hb hby at_95) rfl (teq (rfl : (5 : Int32) = 5)).1 (by decide) (by decide) ?_
  show Steps p.tables e below (T0.setTop (mkF m 100 #[.val (.long q1), .second, .val (.long q2), .second, .val (.long q3), .second, .val (.long q4), .second, .val (.int p5), .val (.long q6), .second, .val (.int (Int32.ofNat o)), .val (.ref ba), .val (.ref la), .unset, .unset, .unset, .unset, .unset, .unset, .unset, .unset, .unset, .unset, .unset, .unset] [])) _
  refine X0.ldc2Long hx hown (mvT hZ (hw _ (List.mem_of_getElem? (i := 13) rfl))) (g := (mkF m 100 #[.val (.long q1), .second, .val (.long q2), .second, .val (.long q3), .second, .val (.long q4), .second, .val (.int p5), .val (.long q6), .second, .val (.int (Int32.ofNat o)), .val (.ref ba), .val (.ref la), .unset, .unset, .unset, .unset, .unset, .unset, .unset, .unset, .unset, .unset, .unset, .unset] [])) rfl (hb hby at_100) _ ?_
  show Steps p.tables e below (T0.setTop (mkF m 103 #[.val (.long q1), .second, .val (.long q2), .second, .val (.long q3), .second, .val (.long q4), .second, .val (.int p5), .val (.long q6), .second, .val (.int (Int32.ofNat o)), .val (.ref ba), .val (.ref la), .unset, .unset, .unset, .unset, .unset, .unset, .unset, .unset, .unset, .unset, .unset, .unset] [(.long (4503599627370495 : Int64))])) _
  refine XS.lstore X0.here hx rfl (hb hby at_103) rfl (l' := #[.val (.long q1), .second, .val (.long q2), .second, .val (.long q3), .second, .val (.long q4), .second, .val (.int p5), .val (.long q6), .second, .val (.int (Int32.ofNat o)), .val (.ref ba), .val (.ref la), .val (.long (4503599627370495 : Int64)), .second, .unset, .unset, .unset, .unset, .unset, .unset, .unset, .unset, .unset, .unset]) rfl ?_
  show Steps p.tables e below (T0.setTop (mkF m 105 #[.val (.long q1), .second, .val (.long q2), .second, .val (.long q3), .second, .val (.long q4), .second, .val (.int p5), .val (.long q6), .second, .val (.int (Int32.ofNat o)), .val (.ref ba), .val (.ref la), .val (.long (4503599627370495 : Int64)), .second, .unset, .unset, .unset, .unset, .unset, .unset, .unset, .unset, .unset, .unset] [])) _
  refine XS.lload X0.here hx rfl (hb hby at_105) rfl ?_
  show Steps p.tables e below (T0.setTop (mkF m 107 #[.val (.long q1), .second, .val (.long q2), .second, .val (.long q3), .second, .val (.long q4), .second, .val (.int p5), .val (.long q6), .second, .val (.int (Int32.ofNat o)), .val (.ref ba), .val (.ref la), .val (.long (4503599627370495 : Int64)), .second, .unset, .unset, .unset, .unset, .unset, .unset, .unset, .unset, .unset, .unset] [(.long q4)])) _
  refine XS.lload X0.here hx rfl (hb hby at_107) rfl ?_
  show Steps p.tables e below (T0.setTop (mkF m 109 #[.val (.long q1), .second, .val (.long q2), .second, .val (.long q3), .second, .val (.long q4), .second, .val (.int p5), .val (.long q6), .second, .val (.int (Int32.ofNat o)), .val (.ref ba), .val (.ref la), .val (.long (4503599627370495 : Int64)), .second, .unset, .unset, .unset, .unset, .unset, .unset, .unset, .unset, .unset, .unset] [(.long (4503599627370495 : Int64)), (.long q4)])) _
  refine XS.land X0.here hx rfl (hb hby at_109) rfl ?_
  show Steps p.tables e below (T0.setTop (mkF m 110 #[.val (.long q1), .second, .val (.long q2), .second, .val (.long q3), .second, .val (.long q4), .second, .val (.int p5), .val (.long q6), .second, .val (.int (Int32.ofNat o)), .val (.ref ba), .val (.ref la), .val (.long (4503599627370495 : Int64)), .second, .unset, .unset, .unset, .unset, .unset, .unset, .unset, .unset, .unset, .unset] [(.long (q4 &&& (4503599627370495 : Int64)))])) _
  refine XS.lstore X0.here hx rfl (hb hby at_110) rfl (l' := #[.val (.long q1), .second, .val (.long q2), .second, .val (.long q3), .second, .val (.long q4), .second, .val (.int p5), .val (.long q6), .second, .val (.int (Int32.ofNat o)), .val (.ref ba), .val (.ref la), .val (.long (4503599627370495 : Int64)), .second, .val (.long (q4 &&& (4503599627370495 : Int64))), .second, .unset, .unset, .unset, .unset, .unset, .unset, .unset, .unset]) rfl ?_
  show Steps p.tables e below (T0.setTop (mkF m 112 #[.val (.long q1), .second, .val (.long q2), .second, .val (.long q3), .second, .val (.long q4), .second, .val (.int p5), .val (.long q6), .second, .val (.int (Int32.ofNat o)), .val (.ref ba), .val (.ref la), .val (.long (4503599627370495 : Int64)), .second, .val (.long (q4 &&& (4503599627370495 : Int64))), .second, .unset, .unset, .unset, .unset, .unset, .unset, .unset, .unset] [])) _
  refine XS.lload X0.here hx rfl (hb hby at_112) rfl ?_
  show Steps p.tables e below (T0.setTop (mkF m 114 #[.val (.long q1), .second, .val (.long q2), .second, .val (.long q3), .second, .val (.long q4), .second, .val (.int p5), .val (.long q6), .second, .val (.int (Int32.ofNat o)), .val (.ref ba), .val (.ref la), .val (.long (4503599627370495 : Int64)), .second, .val (.long (q4 &&& (4503599627370495 : Int64))), .second, .unset, .unset, .unset, .unset, .unset, .unset, .unset, .unset] [(.long q4)])) _
  refine XS.bipush X0.here hx rfl (hb hby at_114) ?_
  show Steps p.tables e below (T0.setTop (mkF m 116 #[.val (.long q1), .second, .val (.long q2), .second, .val (.long q3), .second, .val (.long q4), .second, .val (.int p5), .val (.long q6), .second, .val (.int (Int32.ofNat o)), .val (.ref ba), .val (.ref la), .val (.long (4503599627370495 : Int64)), .second, .val (.long (q4 &&& (4503599627370495 : Int64))), .second, .unset, .unset, .unset, .unset, .unset, .unset, .unset, .unset] [(.int (52 : Int32)), (.long q4)])) _
  refine XT.lushr X0.here hx rfl (hb hby at_116) rfl ?_
  show Steps p.tables e below (T0.setTop (mkF m 117 #[.val (.long q1), .second, .val (.long q2), .second, .val (.long q3), .second, .val (.long q4), .second, .val (.int p5), .val (.long q6), .second, .val (.int (Int32.ofNat o)), .val (.ref ba), .val (.ref la), .val (.long (4503599627370495 : Int64)), .second, .val (.long (q4 &&& (4503599627370495 : Int64))), .second, .unset, .unset, .unset, .unset, .unset, .unset, .unset, .unset] [(.long (XT.ushrL q4 (52 : Int32)))])) _
  refine XS.lload X0.here hx rfl (hb hby at_117) rfl ?_
  show Steps p.tables e below (T0.setTop (mkF m 119 #[.val (.long q1), .second, .val (.long q2), .second, .val (.long q3), .second, .val (.long q4), .second, .val (.int p5), .val (.long q6), .second, .val (.int (Int32.ofNat o)), .val (.ref ba), .val (.ref la), .val (.long (4503599627370495 : Int64)), .second, .val (.long (q4 &&& (4503599627370495 : Int64))), .second, .unset, .unset, .unset, .unset, .unset, .unset, .unset, .unset] [(.long q3), (.long (XT.ushrL q4 (52 : Int32)))])) _
  refine XS.bipush X0.here hx rfl (hb hby at_119) ?_
  show Steps p.tables e below (T0.setTop (mkF m 121 #[.val (.long q1), .second, .val (.long q2), .second, .val (.long q3), .second, .val (.long q4), .second, .val (.int p5), .val (.long q6), .second, .val (.int (Int32.ofNat o)), .val (.ref ba), .val (.ref la), .val (.long (4503599627370495 : Int64)), .second, .val (.long (q4 &&& (4503599627370495 : Int64))), .second, .unset, .unset, .unset, .unset, .unset, .unset, .unset, .unset] [(.int (12 : Int32)), (.long q3), (.long (XT.ushrL q4 (52 : Int32)))])) _
  refine XT.lshl X0.here hx rfl (hb hby at_121) rfl ?_
  show Steps p.tables e below (T0.setTop (mkF m 122 #[.val (.long q1), .second, .val (.long q2), .second, .val (.long q3), .second, .val (.long q4), .second, .val (.int p5), .val (.long q6), .second, .val (.int (Int32.ofNat o)), .val (.ref ba), .val (.ref la), .val (.long (4503599627370495 : Int64)), .second, .val (.long (q4 &&& (4503599627370495 : Int64))), .second, .unset, .unset, .unset, .unset, .unset, .unset, .unset, .unset] [(.long (q3 <<< (((12 : Int32)).toInt64 &&& 63))), (.long (XT.ushrL q4 (52 : Int32)))])) _
  refine XS.lload X0.here hx rfl (hb hby at_122) rfl ?_
  show Steps p.tables e below (T0.setTop (mkF m 124 #[.val (.long q1), .second, .val (.long q2), .second, .val (.long q3), .second, .val (.long q4), .second, .val (.int p5), .val (.long q6), .second, .val (.int (Int32.ofNat o)), .val (.ref ba), .val (.ref la), .val (.long (4503599627370495 : Int64)), .second, .val (.long (q4 &&& (4503599627370495 : Int64))), .second, .unset, .unset, .unset, .unset, .unset, .unset, .unset, .unset] [(.long (4503599627370495 : Int64)), (.long (q3 <<< (((12 : Int32)).toInt64 &&& 63))), (.long (XT.ushrL q4 (52 : Int32)))])) _
  refine XS.land X0.here hx rfl (hb hby at_124) rfl ?_
  show Steps p.tables e below (T0.setTop (mkF m 125 #[.val (.long q1), .second, .val (.long q2), .second, .val (.long q3), .second, .val (.long q4), .second, .val (.int p5), .val (.long q6), .second, .val (.int (Int32.ofNat o)), .val (.ref ba), .val (.ref la), .val (.long (4503599627370495 : Int64)), .second, .val (.long (q4 &&& (4503599627370495 : Int64))), .second, .unset, .unset, .unset, .unset, .unset, .unset, .unset, .unset] [(.long ((q3 <<< (((12 : Int32)).toInt64 &&& 63)) &&& (4503599627370495 : Int64))), (.long (XT.ushrL q4 (52 : Int32)))])) _
  refine XS.lor X0.here hx rfl (hb hby at_125) rfl ?_
  show Steps p.tables e below (T0.setTop (mkF m 126 #[.val (.long q1), .second, .val (.long q2), .second, .val (.long q3), .second, .val (.long q4), .second, .val (.int p5), .val (.long q6), .second, .val (.int (Int32.ofNat o)), .val (.ref ba), .val (.ref la), .val (.long (4503599627370495 : Int64)), .second, .val (.long (q4 &&& (4503599627370495 : Int64))), .second, .unset, .unset, .unset, .unset, .unset, .unset, .unset, .unset] [(.long ((XT.ushrL q4 (52 : Int32)) ||| ((q3 <<< (((12 : Int32)).toInt64 &&& 63)) &&& (4503599627370495 : Int64))))])) _
  refine XS.lstore X0.here hx rfl (hb hby at_126) rfl (l' := #[.val (.long q1), .second, .val (.long q2), .second, .val (.long q3), .second, .val (.long q4), .second, .val (.int p5), .val (.long q6), .second, .val (.int (Int32.ofNat o)), .val (.ref ba), .val (.ref la), .val (.long (4503599627370495 : Int64)), .second, .val (.long (q4 &&& (4503599627370495 : Int64))), .second, .val (.long ((XT.ushrL q4 (52 : Int32)) ||| ((q3 <<< (((12 : Int32)).toInt64 &&& 63)) &&& (4503599627370495 : Int64)))), .second, .unset, .unset, .unset, .unset, .unset, .unset]) rfl ?_
  show Steps p.tables e below (T0.setTop (mkF m 128 #[.val (.long q1), .second, .val (.long q2), .second, .val (.long q3), .second, .val (.long q4), .second, .val (.int p5), .val (.long q6), .second, .val (.int (Int32.ofNat o)), .val (.ref ba), .val (.ref la), .val (.long (4503599627370495 : Int64)), .second, .val (.long (q4 &&& (4503599627370495 : Int64))), .second, .val (.long ((XT.ushrL q4 (52 : Int32)) ||| ((q3 <<< (((12 : Int32)).toInt64 &&& 63)) &&& (4503599627370495 : Int64)))), .second, .unset, .unset, .unset, .unset, .unset, .unset] [])) _
  refine XS.lload X0.here hx rfl (hb hby at_128) rfl ?_
  show Steps p.tables e below (T0.setTop (mkF m 130 #[.val (.long q1), .second, .val (.long q2), .second, .val (.long q3), .second, .val (.long q4), .second, .val (.int p5), .val (.long q6), .second, .val (.int (Int32.ofNat o)), .val (.ref ba), .val (.ref la), .val (.long (4503599627370495 : Int64)), .second, .val (.long (q4 &&& (4503599627370495 : Int64))), .second, .val (.long ((XT.ushrL q4 (52 : Int32)) ||| ((q3 <<< (((12 : Int32)).toInt64 &&& 63)) &&& (4503599627370495 : Int64)))), .second, .unset, .unset, .unset, .unset, .unset, .unset] [(.long q3)])) _
  refine XS.bipush X0.here hx rfl (hb hby at_130) ?_
  show Steps p.tables e below (T0.setTop (mkF m 132 #[.val (.long q1), .second, .val (.long q2), .second, .val (.long q3), .second, .val (.long q4), .second, .val (.int p5), .val (.long q6), .second, .val (.int (Int32.ofNat o)), .val (.ref ba), .val (.ref la), .val (.long (4503599627370495 : Int64)), .second, .val (.long (q4 &&& (4503599627370495 : Int64))), .second, .val (.long ((XT.ushrL q4 (52 : Int32)) ||| ((q3 <<< (((12 : Int32)).toInt64 &&& 63)) &&& (4503599627370495 : Int64)))), .second, .unset, .unset, .unset, .unset, .unset, .unset] [(.int (40 : Int32)), (.long q3)])) _
  refine XT.lushr X0.here hx rfl (hb hby at_132) rfl ?_
  show Steps p.tables e below (T0.setTop (mkF m 133 #[.val (.long q1), .second, .val (.long q2), .second, .val (.long q3), .second, .val (.long q4), .second, .val (.int p5), .val (.long q6), .second, .val (.int (Int32.ofNat o)), .val (.ref ba), .val (.ref la), .val (.long (4503599627370495 : Int64)), .second, .val (.long (q4 &&& (4503599627370495 : Int64))), .second, .val (.long ((XT.ushrL q4 (52 : Int32)) ||| ((q3 <<< (((12 : Int32)).toInt64 &&& 63)) &&& (4503599627370495 : Int64)))), .second, .unset, .unset, .unset, .unset, .unset, .unset] [(.long (XT.ushrL q3 (40 : Int32)))])) _
  refine XS.lloadN X0.here hx rfl (hb hby at_133) rfl ?_
  show Steps p.tables e below (T0.setTop (mkF m 134 #[.val (.long q1), .second, .val (.long q2), .second, .val (.long q3), .second, .val (.long q4), .second, .val (.int p5), .val (.long q6), .second, .val (.int (Int32.ofNat o)), .val (.ref ba), .val (.ref la), .val (.long (4503599627370495 : Int64)), .second, .val (.long (q4 &&& (4503599627370495 : Int64))), .second, .val (.long ((XT.ushrL q4 (52 : Int32)) ||| ((q3 <<< (((12 : Int32)).toInt64 &&& 63)) &&& (4503599627370495 : Int64)))), .second, .unset, .unset, .unset, .unset, .unset, .unset] [(.long q2), (.long (XT.ushrL q3 (40 : Int32)))])) _
  refine XS.bipush X0.here hx rfl (hb hby at_134) ?_
  show Steps p.tables e below (T0.setTop (mkF m 136 #[.val (.long q1), .second, .val (.long q2), .second, .val (.long q3), .second, .val (.long q4), .second, .val (.int p5), .val (.long q6), .second, .val (.int (Int32.ofNat o)), .val (.ref ba), .val (.ref la), .val (.long (4503599627370495 : Int64)), .second, .val (.long (q4 &&& (4503599627370495 : Int64))), .second, .val (.long ((XT.ushrL q4 (52 : Int32)) ||| ((q3 <<< (((12 : Int32)).toInt64 &&& 63)) &&& (4503599627370495 : Int64)))), .second, .unset, .unset, .unset, .unset, .unset, .unset] [(.int (24 : Int32)), (.long q2), (.long (XT.ushrL q3 (40 : Int32)))])) _
  refine XT.lshl X0.here hx rfl (hb hby at_136) rfl ?_
  show Steps p.tables e below (T0.setTop (mkF m 137 #[.val (.long q1), .second, .val (.long q2), .second, .val (.long q3), .second, .val (.long q4), .second, .val (.int p5), .val (.long q6), .second, .val (.int (Int32.ofNat o)), .val (.ref ba), .val (.ref la), .val (.long (4503599627370495 : Int64)), .second, .val (.long (q4 &&& (4503599627370495 : Int64))), .second, .val (.long ((XT.ushrL q4 (52 : Int32)) ||| ((q3 <<< (((12 : Int32)).toInt64 &&& 63)) &&& (4503599627370495 : Int64)))), .second, .unset, .unset, .unset, .unset, .unset, .unset] [(.long (q2 <<< (((24 : Int32)).toInt64 &&& 63))), (.long (XT.ushrL q3 (40 : Int32)))])) _
  refine XS.lload X0.here hx rfl (hb hby at_137) rfl ?_
  show Steps p.tables e below (T0.setTop (mkF m 139 #[.val (.long q1), .second, .val (.long q2), .second, .val (.long q3), .second, .val (.long q4), .second, .val (.int p5), .val (.long q6), .second, .val (.int (Int32.ofNat o)), .val (.ref ba), .val (.ref la), .val (.long (4503599627370495 : Int64)), .second, .val (.long (q4 &&& (4503599627370495 : Int64))), .second, .val (.long ((XT.ushrL q4 (52 : Int32)) ||| ((q3 <<< (((12 : Int32)).toInt64 &&& 63)) &&& (4503599627370495 : Int64)))), .second, .unset, .unset, .unset, .unset, .unset, .unset] [(.long (4503599627370495 : Int64)), (.long (q2 <<< (((24 : Int32)).toInt64 &&& 63))), (.long (XT.ushrL q3 (40 : Int32)))])) _
  refine XS.land X0.here hx rfl (hb hby at_139) rfl ?_
  show Steps p.tables e below (T0.setTop (mkF m 140 #[.val (.long q1), .second, .val (.long q2), .second, .val (.long q3), .second, .val (.long q4), .second, .val (.int p5), .val (.long q6), .second, .val (.int (Int32.ofNat o)), .val (.ref ba), .val (.ref la), .val (.long (4503599627370495 : Int64)), .second, .val (.long (q4 &&& (4503599627370495 : Int64))), .second, .val (.long ((XT.ushrL q4 (52 : Int32)) ||| ((q3 <<< (((12 : Int32)).toInt64 &&& 63)) &&& (4503599627370495 : Int64)))), .second, .unset, .unset, .unset, .unset, .unset, .unset] [(.long ((q2 <<< (((24 : Int32)).toInt64 &&& 63)) &&& (4503599627370495 : Int64))), (.long (XT.ushrL q3 (40 : Int32)))])) _
  refine XS.lor X0.here hx rfl (hb hby at_140) rfl ?_
  show Steps p.tables e below (T0.setTop (mkF m 141 #[.val (.long q1), .second, .val (.long q2), .second, .val (.long q3), .second, .val (.long q4), .second, .val (.int p5), .val (.long q6), .second, .val (.int (Int32.ofNat o)), .val (.ref ba), .val (.ref la), .val (.long (4503599627370495 : Int64)), .second, .val (.long (q4 &&& (4503599627370495 : Int64))), .second, .val (.long ((XT.ushrL q4 (52 : Int32)) ||| ((q3 <<< (((12 : Int32)).toInt64 &&& 63)) &&& (4503599627370495 : Int64)))), .second, .unset, .unset, .unset, .unset, .unset, .unset] [(.long ((XT.ushrL q3 (40 : Int32)) ||| ((q2 <<< (((24 : Int32)).toInt64 &&& 63)) &&& (4503599627370495 : Int64))))])) _
  refine XS.lstore X0.here hx rfl (hb hby at_141) rfl (l' := #[.val (.long q1), .second, .val (.long q2), .second, .val (.long q3), .second, .val (.long q4), .second, .val (.int p5), .val (.long q6), .second, .val (.int (Int32.ofNat o)), .val (.ref ba), .val (.ref la), .val (.long (4503599627370495 : Int64)), .second, .val (.long (q4 &&& (4503599627370495 : Int64))), .second, .val (.long ((XT.ushrL q4 (52 : Int32)) ||| ((q3 <<< (((12 : Int32)).toInt64 &&& 63)) &&& (4503599627370495 : Int64)))), .second, .val (.long ((XT.ushrL q3 (40 : Int32)) ||| ((q2 <<< (((24 : Int32)).toInt64 &&& 63)) &&& (4503599627370495 : Int64)))), .second, .unset, .unset, .unset, .unset]) rfl ?_
  show Steps p.tables e below (T0.setTop (mkF m 143 #[.val (.long q1), .second, .val (.long q2), .second, .val (.long q3), .second, .val (.long q4), .second, .val (.int p5), .val (.long q6), .second, .val (.int (Int32.ofNat o)), .val (.ref ba), .val (.ref la), .val (.long (4503599627370495 : Int64)), .second, .val (.long (q4 &&& (4503599627370495 : Int64))), .second, .val (.long ((XT.ushrL q4 (52 : Int32)) ||| ((q3 <<< (((12 : Int32)).toInt64 &&& 63)) &&& (4503599627370495 : Int64)))), .second, .val (.long ((XT.ushrL q3 (40 : Int32)) ||| ((q2 <<< (((24 : Int32)).toInt64 &&& 63)) &&& (4503599627370495 : Int64)))), .second, .unset, .unset, .unset, .unset] [])) _
  refine XS.lloadN X0.here hx rfl (hb hby at_143) rfl ?_
  show Steps p.tables e below (T0.setTop (mkF m 144 #[.val (.long q1), .second, .val (.long q2), .second, .val (.long q3), .second, .val (.long q4), .second, .val (.int p5), .val (.long q6), .second, .val (.int (Int32.ofNat o)), .val (.ref ba), .val (.ref la), .val (.long (4503599627370495 : Int64)), .second, .val (.long (q4 &&& (4503599627370495 : Int64))), .second, .val (.long ((XT.ushrL q4 (52 : Int32)) ||| ((q3 <<< (((12 : Int32)).toInt64 &&& 63)) &&& (4503599627370495 : Int64)))), .second, .val (.long ((XT.ushrL q3 (40 : Int32)) ||| ((q2 <<< (((24 : Int32)).toInt64 &&& 63)) &&& (4503599627370495 : Int64)))), .second, .unset, .unset, .unset, .unset] [(.long q2)])) _
  refine XS.bipush X0.here hx rfl (hb hby at_144) ?_
  show Steps p.tables e below (T0.setTop (mkF m 146 #[.val (.long q1), .second, .val (.long q2), .second, .val (.long q3), .second, .val (.long q4), .second, .val (.int p5), .val (.long q6), .second, .val (.int (Int32.ofNat o)), .val (.ref ba), .val (.ref la), .val (.long (4503599627370495 : Int64)), .second, .val (.long (q4 &&& (4503599627370495 : Int64))), .second, .val (.long ((XT.ushrL q4 (52 : Int32)) ||| ((q3 <<< (((12 : Int32)).toInt64 &&& 63)) &&& (4503599627370495 : Int64)))), .second, .val (.long ((XT.ushrL q3 (40 : Int32)) ||| ((q2 <<< (((24 : Int32)).toInt64 &&& 63)) &&& (4503599627370495 : Int64)))), .second, .unset, .unset, .unset, .unset] [(.int (28 : Int32)), (.long q2)])) _
  refine XT.lushr X0.here hx rfl (hb hby at_146) rfl ?_
  show Steps p.tables e below (T0.setTop (mkF m 147 #[.val (.long q1), .second, .val (.long q2), .second, .val (.long q3), .second, .val (.long q4), .second, .val (.int p5), .val (.long q6), .second, .val (.int (Int32.ofNat o)), .val (.ref ba), .val (.ref la), .val (.long (4503599627370495 : Int64)), .second, .val (.long (q4 &&& (4503599627370495 : Int64))), .second, .val (.long ((XT.ushrL q4 (52 : Int32)) ||| ((q3 <<< (((12 : Int32)).toInt64 &&& 63)) &&& (4503599627370495 : Int64)))), .second, .val (.long ((XT.ushrL q3 (40 : Int32)) ||| ((q2 <<< (((24 : Int32)).toInt64 &&& 63)) &&& (4503599627370495 : Int64)))), .second, .unset, .unset, .unset, .unset] [(.long (XT.ushrL q2 (28 : Int32)))])) _
  refine XS.lloadN X0.here hx rfl (hb hby at_147) rfl ?_
  show Steps p.tables e below (T0.setTop (mkF m 148 #[.val (.long q1), .second, .val (.long q2), .second, .val (.long q3), .second, .val (.long q4), .second, .val (.int p5), .val (.long q6), .second, .val (.int (Int32.ofNat o)), .val (.ref ba), .val (.ref la), .val (.long (4503599627370495 : Int64)), .second, .val (.long (q4 &&& (4503599627370495 : Int64))), .second, .val (.long ((XT.ushrL q4 (52 : Int32)) ||| ((q3 <<< (((12 : Int32)).toInt64 &&& 63)) &&& (4503599627370495 : Int64)))), .second, .val (.long ((XT.ushrL q3 (40 : Int32)) ||| ((q2 <<< (((24 : Int32)).toInt64 &&& 63)) &&& (4503599627370495 : Int64)))), .second, .unset, .unset, .unset, .unset] [(.long q1), (.long (XT.ushrL q2 (28 : Int32)))])) _
  refine XS.bipush X0.here hx rfl (hb hby at_148) ?_
  show Steps p.tables e below (T0.setTop (mkF m 150 #[.val (.long q1), .second, .val (.long q2), .second, .val (.long q3), .second, .val (.long q4), .second, .val (.int p5), .val (.long q6), .second, .val (.int (Int32.ofNat o)), .val (.ref ba), .val (.ref la), .val (.long (4503599627370495 : Int64)), .second, .val (.long (q4 &&& (4503599627370495 : Int64))), .second, .val (.long ((XT.ushrL q4 (52 : Int32)) ||| ((q3 <<< (((12 : Int32)).toInt64 &&& 63)) &&& (4503599627370495 : Int64)))), .second, .val (.long ((XT.ushrL q3 (40 : Int32)) ||| ((q2 <<< (((24 : Int32)).toInt64 &&& 63)) &&& (4503599627370495 : Int64)))), .second, .unset, .unset, .unset, .unset] [(.int (36 : Int32)), (.long q1), (.long (XT.ushrL q2 (28 : Int32)))])) _
  refine XT.lshl X0.here hx rfl (hb hby at_150) rfl ?_
  show Steps p.tables e below (T0.setTop (mkF m 151 #[.val (.long q1), .second, .val (.long q2), .second, .val (.long q3), .second, .val (.long q4), .second, .val (.int p5), .val (.long q6), .second, .val (.int (Int32.ofNat o)), .val (.ref ba), .val (.ref la), .val (.long (4503599627370495 : Int64)), .second, .val (.long (q4 &&& (4503599627370495 : Int64))), .second, .val (.long ((XT.ushrL q4 (52 : Int32)) ||| ((q3 <<< (((12 : Int32)).toInt64 &&& 63)) &&& (4503599627370495 : Int64)))), .second, .val (.long ((XT.ushrL q3 (40 : Int32)) ||| ((q2 <<< (((24 : Int32)).toInt64 &&& 63)) &&& (4503599627370495 : Int64)))), .second, .unset, .unset, .unset, .unset] [(.long (q1 <<< (((36 : Int32)).toInt64 &&& 63))), (.long (XT.ushrL q2 (28 : Int32)))])) _
  refine XS.lload X0.here hx rfl (hb hby at_151) rfl ?_
  show Steps p.tables e below (T0.setTop (mkF m 153 #[.val (.long q1), .second, .val (.long q2), .second, .val (.long q3), .second, .val (.long q4), .second, .val (.int p5), .val (.long q6), .second, .val (.int (Int32.ofNat o)), .val (.ref ba), .val (.ref la), .val (.long (4503599627370495 : Int64)), .second, .val (.long (q4 &&& (4503599627370495 : Int64))), .second, .val (.long ((XT.ushrL q4 (52 : Int32)) ||| ((q3 <<< (((12 : Int32)).toInt64 &&& 63)) &&& (4503599627370495 : Int64)))), .second, .val (.long ((XT.ushrL q3 (40 : Int32)) ||| ((q2 <<< (((24 : Int32)).toInt64 &&& 63)) &&& (4503599627370495 : Int64)))), .second, .unset, .unset, .unset, .unset] [(.long (4503599627370495 : Int64)), (.long (q1 <<< (((36 : Int32)).toInt64 &&& 63))), (.long (XT.ushrL q2 (28 : Int32)))])) _
  refine XS.land X0.here hx rfl (hb hby at_153) rfl ?_
  show Steps p.tables e below (T0.setTop (mkF m 154 #[.val (.long q1), .second, .val (.long q2), .second, .val (.long q3), .second, .val (.long q4), .second, .val (.int p5), .val (.long q6), .second, .val (.int (Int32.ofNat o)), .val (.ref ba), .val (.ref la), .val (.long (4503599627370495 : Int64)), .second, .val (.long (q4 &&& (4503599627370495 : Int64))), .second, .val (.long ((XT.ushrL q4 (52 : Int32)) ||| ((q3 <<< (((12 : Int32)).toInt64 &&& 63)) &&& (4503599627370495 : Int64)))), .second, .val (.long ((XT.ushrL q3 (40 : Int32)) ||| ((q2 <<< (((24 : Int32)).toInt64 &&& 63)) &&& (4503599627370495 : Int64)))), .second, .unset, .unset, .unset, .unset] [(.long ((q1 <<< (((36 : Int32)).toInt64 &&& 63)) &&& (4503599627370495 : Int64))), (.long (XT.ushrL q2 (28 : Int32)))])) _
  refine XS.lor X0.here hx rfl (hb hby at_154) rfl ?_
  show Steps p.tables e below (T0.setTop (mkF m 155 #[.val (.long q1), .second, .val (.long q2), .second, .val (.long q3), .second, .val (.long q4), .second, .val (.int p5), .val (.long q6), .second, .val (.int (Int32.ofNat o)), .val (.ref ba), .val (.ref la), .val (.long (4503599627370495 : Int64)), .second, .val (.long (q4 &&& (4503599627370495 : Int64))), .second, .val (.long ((XT.ushrL q4 (52 : Int32)) ||| ((q3 <<< (((12 : Int32)).toInt64 &&& 63)) &&& (4503599627370495 : Int64)))), .second, .val (.long ((XT.ushrL q3 (40 : Int32)) ||| ((q2 <<< (((24 : Int32)).toInt64 &&& 63)) &&& (4503599627370495 : Int64)))), .second, .unset, .unset, .unset, .unset] [(.long ((XT.ushrL q2 (28 : Int32)) ||| ((q1 <<< (((36 : Int32)).toInt64 &&& 63)) &&& (4503599627370495 : Int64))))])) _
  refine XS.lstore X0.here hx rfl (hb hby at_155) rfl (l' := #[.val (.long q1), .second, .val (.long q2), .second, .val (.long q3), .second, .val (.long q4), .second, .val (.int p5), .val (.long q6), .second, .val (.int (Int32.ofNat o)), .val (.ref ba), .val (.ref la), .val (.long (4503599627370495 : Int64)), .second, .val (.long (q4 &&& (4503599627370495 : Int64))), .second, .val (.long ((XT.ushrL q4 (52 : Int32)) ||| ((q3 <<< (((12 : Int32)).toInt64 &&& 63)) &&& (4503599627370495 : Int64)))), .second, .val (.long ((XT.ushrL q3 (40 : Int32)) ||| ((q2 <<< (((24 : Int32)).toInt64 &&& 63)) &&& (4503599627370495 : Int64)))), .second, .val (.long ((XT.ushrL q2 (28 : Int32)) ||| ((q1 <<< (((36 : Int32)).toInt64 &&& 63)) &&& (4503599627370495 : Int64)))), .second, .unset, .unset]) rfl ?_
  show Steps p.tables e below (T0.setTop (mkF m 157 #[.val (.long q1), .second, .val (.long q2), .second, .val (.long q3), .second, .val (.long q4), .second, .val (.int p5), .val (.long q6), .second, .val (.int (Int32.ofNat o)), .val (.ref ba), .val (.ref la), .val (.long (4503599627370495 : Int64)), .second, .val (.long (q4 &&& (4503599627370495 : Int64))), .second, .val (.long ((XT.ushrL q4 (52 : Int32)) ||| ((q3 <<< (((12 : Int32)).toInt64 &&& 63)) &&& (4503599627370495 : Int64)))), .second, .val (.long ((XT.ushrL q3 (40 : Int32)) ||| ((q2 <<< (((24 : Int32)).toInt64 &&& 63)) &&& (4503599627370495 : Int64)))), .second, .val (.long ((XT.ushrL q2 (28 : Int32)) ||| ((q1 <<< (((36 : Int32)).toInt64 &&& 63)) &&& (4503599627370495 : Int64)))), .second, .unset, .unset] [])) _
  refine XS.lloadN X0.here hx rfl (hb hby at_157) rfl ?_
  show Steps p.tables e below (T0.setTop (mkF m 158 #[.val (.long q1), .second, .val (.long q2), .second, .val (.long q3), .second, .val (.long q4), .second, .val (.int p5), .val (.long q6), .second, .val (.int (Int32.ofNat o)), .val (.ref ba), .val (.ref la), .val (.long (4503599627370495 : Int64)), .second, .val (.long (q4 &&& (4503599627370495 : Int64))), .second, .val (.long ((XT.ushrL q4 (52 : Int32)) ||| ((q3 <<< (((12 : Int32)).toInt64 &&& 63)) &&& (4503599627370495 : Int64)))), .second, .val (.long ((XT.ushrL q3 (40 : Int32)) ||| ((q2 <<< (((24 : Int32)).toInt64 &&& 63)) &&& (4503599627370495 : Int64)))), .second, .val (.long ((XT.ushrL q2 (28 : Int32)) ||| ((q1 <<< (((36 : Int32)).toInt64 &&& 63)) &&& (4503599627370495 : Int64)))), .second, .unset, .unset] [(.long q1)])) _
  refine XS.bipush X0.here hx rfl (hb hby at_158) ?_
  show Steps p.tables e below (T0.setTop (mkF m 160 #[.val (.long q1), .second, .val (.long q2), .second, .val (.long q3), .second, .val (.long q4), .second, .val (.int p5), .val (.long q6), .second, .val (.int (Int32.ofNat o)), .val (.ref ba), .val (.ref la), .val (.long (4503599627370495 : Int64)), .second, .val (.long (q4 &&& (4503599627370495 : Int64))), .second, .val (.long ((XT.ushrL q4 (52 : Int32)) ||| ((q3 <<< (((12 : Int32)).toInt64 &&& 63)) &&& (4503599627370495 : Int64)))), .second, .val (.long ((XT.ushrL q3 (40 : Int32)) ||| ((q2 <<< (((24 : Int32)).toInt64 &&& 63)) &&& (4503599627370495 : Int64)))), .second, .val (.long ((XT.ushrL q2 (28 : Int32)) ||| ((q1 <<< (((36 : Int32)).toInt64 &&& 63)) &&& (4503599627370495 : Int64)))), .second, .unset, .unset] [(.int (16 : Int32)), (.long q1)])) _
  refine XT.lushr X0.here hx rfl (hb hby at_160) rfl ?_
  show Steps p.tables e below (T0.setTop (mkF m 161 #[.val (.long q1), .second, .val (.long q2), .second, .val (.long q3), .second, .val (.long q4), .second, .val (.int p5), .val (.long q6), .second, .val (.int (Int32.ofNat o)), .val (.ref ba), .val (.ref la), .val (.long (4503599627370495 : Int64)), .second, .val (.long (q4 &&& (4503599627370495 : Int64))), .second, .val (.long ((XT.ushrL q4 (52 : Int32)) ||| ((q3 <<< (((12 : Int32)).toInt64 &&& 63)) &&& (4503599627370495 : Int64)))), .second, .val (.long ((XT.ushrL q3 (40 : Int32)) ||| ((q2 <<< (((24 : Int32)).toInt64 &&& 63)) &&& (4503599627370495 : Int64)))), .second, .val (.long ((XT.ushrL q2 (28 : Int32)) ||| ((q1 <<< (((36 : Int32)).toInt64 &&& 63)) &&& (4503599627370495 : Int64)))), .second, .unset, .unset] [(.long (XT.ushrL q1 (16 : Int32)))])) _
  refine XS.lstore X0.here hx rfl (hb hby at_161) rfl (l' := #[.val (.long q1), .second, .val (.long q2), .second, .val (.long q3), .second, .val (.long q4), .second, .val (.int p5), .val (.long q6), .second, .val (.int (Int32.ofNat o)), .val (.ref ba), .val (.ref la), .val (.long (4503599627370495 : Int64)), .second, .val (.long (q4 &&& (4503599627370495 : Int64))), .second, .val (.long ((XT.ushrL q4 (52 : Int32)) ||| ((q3 <<< (((12 : Int32)).toInt64 &&& 63)) &&& (4503599627370495 : Int64)))), .second, .val (.long ((XT.ushrL q3 (40 : Int32)) ||| ((q2 <<< (((24 : Int32)).toInt64 &&& 63)) &&& (4503599627370495 : Int64)))), .second, .val (.long ((XT.ushrL q2 (28 : Int32)) ||| ((q1 <<< (((36 : Int32)).toInt64 &&& 63)) &&& (4503599627370495 : Int64)))), .second, .val (.long (XT.ushrL q1 (16 : Int32))), .second]) rfl ?_
  show Steps p.tables e below (T0.setTop (mkF m 163 #[.val (.long q1), .second, .val (.long q2), .second, .val (.long q3), .second, .val (.long q4), .second, .val (.int p5), .val (.long q6), .second, .val (.int (Int32.ofNat o)), .val (.ref ba), .val (.ref la), .val (.long (4503599627370495 : Int64)), .second, .val (.long (q4 &&& (4503599627370495 : Int64))), .second, .val (.long ((XT.ushrL q4 (52 : Int32)) ||| ((q3 <<< (((12 : Int32)).toInt64 &&& 63)) &&& (4503599627370495 : Int64)))), .second, .val (.long ((XT.ushrL q3 (40 : Int32)) ||| ((q2 <<< (((24 : Int32)).toInt64 &&& 63)) &&& (4503599627370495 : Int64)))), .second, .val (.long ((XT.ushrL q2 (28 : Int32)) ||| ((q1 <<< (((36 : Int32)).toInt64 &&& 63)) &&& (4503599627370495 : Int64)))), .second, .val (.long (XT.ushrL q1 (16 : Int32))), .second] [])) _
  refine XS.aload X0.here hx rfl (hb hby at_163) rfl rfl ?_
  show Steps p.tables e below (T0.setTop (mkF m 165 #[.val (.long q1), .second, .val (.long q2), .second, .val (.long q3), .second, .val (.long q4), .second, .val (.int p5), .val (.long q6), .second, .val (.int (Int32.ofNat o)), .val (.ref ba), .val (.ref la), .val (.long (4503599627370495 : Int64)), .second, .val (.long (q4 &&& (4503599627370495 : Int64))), .second, .val (.long ((XT.ushrL q4 (52 : Int32)) ||| ((q3 <<< (((12 : Int32)).toInt64 &&& 63)) &&& (4503599627370495 : Int64)))), .second, .val (.long ((XT.ushrL q3 (40 : Int32)) ||| ((q2 <<< (((24 : Int32)).toInt64 &&& 63)) &&& (4503599627370495 : Int64)))), .second, .val (.long ((XT.ushrL q2 (28 : Int32)) ||| ((q1 <<< (((36 : Int32)).toInt64 &&& 63)) &&& (4503599627370495 : Int64)))), .second, .val (.long (XT.ushrL q1 (16 : Int32))), .second] [(.ref la)])) _
  refine XS.iconst X0.here hx rfl (hb hby at_165) ?_
  show Steps p.tables e below (T0.setTop (mkF m 166 #[.val (.long q1), .second, .val (.long q2), .second, .val (.long q3), .second, .val (.long q4), .second, .val (.int p5), .val (.long q6), .second, .val (.int (Int32.ofNat o)), .val (.ref ba), .val (.ref la), .val (.long (4503599627370495 : Int64)), .second, .val (.long (q4 &&& (4503599627370495 : Int64))), .second, .val (.long ((XT.ushrL q4 (52 : Int32)) ||| ((q3 <<< (((12 : Int32)).toInt64 &&& 63)) &&& (4503599627370495 : Int64)))), .second, .val (.long ((XT.ushrL q3 (40 : Int32)) ||| ((q2 <<< (((24 : Int32)).toInt64 &&& 63)) &&& (4503599627370495 : Int64)))), .second, .val (.long ((XT.ushrL q2 (28 : Int32)) ||| ((q1 <<< (((36 : Int32)).toInt64 &&& 63)) &&& (4503599627370495 : Int64)))), .second, .val (.long (XT.ushrL q1 (16 : Int32))), .second] [(.int (0 : Int32)), (.ref la)])) _
  refine X0.laload hx (j := (0 : Int32)) (v := (.long (v 0))) (by rw [e0]; exact ArA.1) (State.isArrayOf_alike hZ.alike ArA.2.1) ArA.2.2 (by rw [SA]; decide) (show cA.slots[(0 : Int32).toNatClampNeg]? = _ from HA 0 (by decide)) (g := (mkF m 166 #[.val (.long q1), .second, .val (.long q2), .second, .val (.long q3), .second, .val (.long q4), .second, .val (.int p5), .val (.long q6), .second, .val (.int (Int32.ofNat o)), .val (.ref ba), .val (.ref la), .val (.long (4503599627370495 : Int64)), .second, .val (.long (q4 &&& (4503599627370495 : Int64))), .second, .val (.long ((XT.ushrL q4 (52 : Int32)) ||| ((q3 <<< (((12 : Int32)).toInt64 &&& 63)) &&& (4503599627370495 : Int64)))), .second, .val (.long ((XT.ushrL q3 (40 : Int32)) ||| ((q2 <<< (((24 : Int32)).toInt64 &&& 63)) &&& (4503599627370495 : Int64)))), .second, .val (.long ((XT.ushrL q2 (28 : Int32)) ||| ((q1 <<< (((36 : Int32)).toInt64 &&& 63)) &&& (4503599627370495 : Int64)))), .second, .val (.long (XT.ushrL q1 (16 : Int32))), .second] [(.int (0 : Int32)), (.ref la)])) rfl rfl (hb hby at_166) _ ?_
  show Steps p.tables e below (T0.setTop (mkF m 167 #[.val (.long q1), .second, .val (.long q2), .second, .val (.long q3), .second, .val (.long q4), .second, .val (.int p5), .val (.long q6), .second, .val (.int (Int32.ofNat o)), .val (.ref ba), .val (.ref la), .val (.long (4503599627370495 : Int64)), .second, .val (.long (q4 &&& (4503599627370495 : Int64))), .second, .val (.long ((XT.ushrL q4 (52 : Int32)) ||| ((q3 <<< (((12 : Int32)).toInt64 &&& 63)) &&& (4503599627370495 : Int64)))), .second, .val (.long ((XT.ushrL q3 (40 : Int32)) ||| ((q2 <<< (((24 : Int32)).toInt64 &&& 63)) &&& (4503599627370495 : Int64)))), .second, .val (.long ((XT.ushrL q2 (28 : Int32)) ||| ((q1 <<< (((36 : Int32)).toInt64 &&& 63)) &&& (4503599627370495 : Int64)))), .second, .val (.long (XT.ushrL q1 (16 : Int32))), .second] [(.long (v 0))])) _
  refine XS.lload X0.here hx rfl (hb hby at_167) rfl ?_
  show Steps p.tables e below (T0.setTop (mkF m 169 #[.val (.long q1), .second, .val (.long q2), .second, .val (.long q3), .second, .val (.long q4), .second, .val (.int p5), .val (.long q6), .second, .val (.int (Int32.ofNat o)), .val (.ref ba), .val (.ref la), .val (.long (4503599627370495 : Int64)), .second, .val (.long (q4 &&& (4503599627370495 : Int64))), .second, .val (.long ((XT.ushrL q4 (52 : Int32)) ||| ((q3 <<< (((12 : Int32)).toInt64 &&& 63)) &&& (4503599627370495 : Int64)))), .second, .val (.long ((XT.ushrL q3 (40 : Int32)) ||| ((q2 <<< (((24 : Int32)).toInt64 &&& 63)) &&& (4503599627370495 : Int64)))), .second, .val (.long ((XT.ushrL q2 (28 : Int32)) ||| ((q1 <<< (((36 : Int32)).toInt64 &&& 63)) &&& (4503599627370495 : Int64)))), .second, .val (.long (XT.ushrL q1 (16 : Int32))), .second] [(.long (q4 &&& (4503599627370495 : Int64))), (.long (v 0))])) _
  refine XS.lcmp X0.here hx rfl (hb hby at_169) rfl ?_
  show Steps p.tables e below (T0.setTop (mkF m 170 #[.val (.long q1), .second, .val (.long q2), .second, .val (.long q3), .second, .val (.long q4), .second, .val (.int p5), .val (.long q6), .second, .val (.int (Int32.ofNat o)), .val (.ref ba), .val (.ref la), .val (.long (4503599627370495 : Int64)), .second, .val (.long (q4 &&& (4503599627370495 : Int64))), .second, .val (.long ((XT.ushrL q4 (52 : Int32)) ||| ((q3 <<< (((12 : Int32)).toInt64 &&& 63)) &&& (4503599627370495 : Int64)))), .second, .val (.long ((XT.ushrL q3 (40 : Int32)) ||| ((q2 <<< (((24 : Int32)).toInt64 &&& 63)) &&& (4503599627370495 : Int64)))), .second, .val (.long ((XT.ushrL q2 (28 : Int32)) ||| ((q1 <<< (((36 : Int32)).toInt64 &&& 63)) &&& (4503599627370495 : Int64)))), .second, .val (.long (XT.ushrL q1 (16 : Int32))), .second] [(.int (lcmpW (v 0) (q4 &&& (4503599627370495 : Int64))))])) _
  refine XS.ifNo X0.here hx rfl (hb hby at_170) rfl ((if0 _ _).trans (teq ((lw_eq _ _).mpr hv0)).2) ?_
  show Steps p.tables e below (T0.setTop (mkF m 173 #[.val (.long q1), .second, .val (.long q2), .second, .val (.long q3), .second, .val (.long q4), .second, .val (.int p5), .val (.long q6), .second, .val (.int (Int32.ofNat o)), .val (.ref ba), .val (.ref la), .val (.long (4503599627370495 : Int64)), .second, .val (.long (q4 &&& (4503599627370495 : Int64))), .second, .val (.long ((XT.ushrL q4 (52 : Int32)) ||| ((q3 <<< (((12 : Int32)).toInt64 &&& 63)) &&& (4503599627370495 : Int64)))), .second, .val (.long ((XT.ushrL q3 (40 : Int32)) ||| ((q2 <<< (((24 : Int32)).toInt64 &&& 63)) &&& (4503599627370495 : Int64)))), .second, .val (.long ((XT.ushrL q2 (28 : Int32)) ||| ((q1 <<< (((36 : Int32)).toInt64 &&& 63)) &&& (4503599627370495 : Int64)))), .second, .val (.long (XT.ushrL q1 (16 : Int32))), .second] [])) _
  refine XS.aload X0.here hx rfl (hb hby at_173) rfl rfl ?_
  show Steps p.tables e below (T0.setTop (mkF m 175 #[.val (.long q1), .second, .val (.long q2), .second, .val (.long q3), .second, .val (.long q4), .second, .val (.int p5), .val (.long q6), .second, .val (.int (Int32.ofNat o)), .val (.ref ba), .val (.ref la), .val (.long (4503599627370495 : Int64)), .second, .val (.long (q4 &&& (4503599627370495 : Int64))), .second, .val (.long ((XT.ushrL q4 (52 : Int32)) ||| ((q3 <<< (((12 : Int32)).toInt64 &&& 63)) &&& (4503599627370495 : Int64)))), .second, .val (.long ((XT.ushrL q3 (40 : Int32)) ||| ((q2 <<< (((24 : Int32)).toInt64 &&& 63)) &&& (4503599627370495 : Int64)))), .second, .val (.long ((XT.ushrL q2 (28 : Int32)) ||| ((q1 <<< (((36 : Int32)).toInt64 &&& 63)) &&& (4503599627370495 : Int64)))), .second, .val (.long (XT.ushrL q1 (16 : Int32))), .second] [(.ref la)])) _
  refine XS.iconst X0.here hx rfl (hb hby at_175) ?_
  show Steps p.tables e below (T0.setTop (mkF m 176 #[.val (.long q1), .second, .val (.long q2), .second, .val (.long q3), .second, .val (.long q4), .second, .val (.int p5), .val (.long q6), .second, .val (.int (Int32.ofNat o)), .val (.ref ba), .val (.ref la), .val (.long (4503599627370495 : Int64)), .second, .val (.long (q4 &&& (4503599627370495 : Int64))), .second, .val (.long ((XT.ushrL q4 (52 : Int32)) ||| ((q3 <<< (((12 : Int32)).toInt64 &&& 63)) &&& (4503599627370495 : Int64)))), .second, .val (.long ((XT.ushrL q3 (40 : Int32)) ||| ((q2 <<< (((24 : Int32)).toInt64 &&& 63)) &&& (4503599627370495 : Int64)))), .second, .val (.long ((XT.ushrL q2 (28 : Int32)) ||| ((q1 <<< (((36 : Int32)).toInt64 &&& 63)) &&& (4503599627370495 : Int64)))), .second, .val (.long (XT.ushrL q1 (16 : Int32))), .second] [(.int (1 : Int32)), (.ref la)])) _
  refine X0.laload hx (j := (1 : Int32)) (v := (.long (v 1))) (by rw [e0]; exact ArA.1) (State.isArrayOf_alike hZ.alike ArA.2.1) ArA.2.2 (by rw [SA]; decide) (show cA.slots[(1 : Int32).toNatClampNeg]? = _ from HA 1 (by decide)) (g := (mkF m 176 #[.val (.long q1), .second, .val (.long q2), .second, .val (.long q3), .second, .val (.long q4), .second, .val (.int p5), .val (.long q6), .second, .val (.int (Int32.ofNat o)), .val (.ref ba), .val (.ref la), .val (.long (4503599627370495 : Int64)), .second, .val (.long (q4 &&& (4503599627370495 : Int64))), .second, .val (.long ((XT.ushrL q4 (52 : Int32)) ||| ((q3 <<< (((12 : Int32)).toInt64 &&& 63)) &&& (4503599627370495 : Int64)))), .second, .val (.long ((XT.ushrL q3 (40 : Int32)) ||| ((q2 <<< (((24 : Int32)).toInt64 &&& 63)) &&& (4503599627370495 : Int64)))), .second, .val (.long ((XT.ushrL q2 (28 : Int32)) ||| ((q1 <<< (((36 : Int32)).toInt64 &&& 63)) &&& (4503599627370495 : Int64)))), .second, .val (.long (XT.ushrL q1 (16 : Int32))), .second] [(.int (1 : Int32)), (.ref la)])) rfl rfl (hb hby at_176) _ ?_
  show Steps p.tables e below (T0.setTop (mkF m 177 #[.val (.long q1), .second, .val (.long q2), .second, .val (.long q3), .second, .val (.long q4), .second, .val (.int p5), .val (.long q6), .second, .val (.int (Int32.ofNat o)), .val (.ref ba), .val (.ref la), .val (.long (4503599627370495 : Int64)), .second, .val (.long (q4 &&& (4503599627370495 : Int64))), .second, .val (.long ((XT.ushrL q4 (52 : Int32)) ||| ((q3 <<< (((12 : Int32)).toInt64 &&& 63)) &&& (4503599627370495 : Int64)))), .second, .val (.long ((XT.ushrL q3 (40 : Int32)) ||| ((q2 <<< (((24 : Int32)).toInt64 &&& 63)) &&& (4503599627370495 : Int64)))), .second, .val (.long ((XT.ushrL q2 (28 : Int32)) ||| ((q1 <<< (((36 : Int32)).toInt64 &&& 63)) &&& (4503599627370495 : Int64)))), .second, .val (.long (XT.ushrL q1 (16 : Int32))), .second] [(.long (v 1))])) _
  refine XS.lload X0.here hx rfl (hb hby at_177) rfl ?_
  show Steps p.tables e below (T0.setTop (mkF m 179 #[.val (.long q1), .second, .val (.long q2), .second, .val (.long q3), .second, .val (.long q4), .second, .val (.int p5), .val (.long q6), .second, .val (.int (Int32.ofNat o)), .val (.ref ba), .val (.ref la), .val (.long (4503599627370495 : Int64)), .second, .val (.long (q4 &&& (4503599627370495 : Int64))), .second, .val (.long ((XT.ushrL q4 (52 : Int32)) ||| ((q3 <<< (((12 : Int32)).toInt64 &&& 63)) &&& (4503599627370495 : Int64)))), .second, .val (.long ((XT.ushrL q3 (40 : Int32)) ||| ((q2 <<< (((24 : Int32)).toInt64 &&& 63)) &&& (4503599627370495 : Int64)))), .second, .val (.long ((XT.ushrL q2 (28 : Int32)) ||| ((q1 <<< (((36 : Int32)).toInt64 &&& 63)) &&& (4503599627370495 : Int64)))), .second, .val (.long (XT.ushrL q1 (16 : Int32))), .second] [(.long ((XT.ushrL q4 (52 : Int32)) ||| ((q3 <<< (((12 : Int32)).toInt64 &&& 63)) &&& (4503599627370495 : Int64)))), (.long (v 1))])) _
  refine XS.lcmp X0.here hx rfl (hb hby at_179) rfl ?_
  show Steps p.tables e below (T0.setTop (mkF m 180 #[.val (.long q1), .second, .val (.long q2), .second, .val (.long q3), .second, .val (.long q4), .second, .val (.int p5), .val (.long q6), .second, .val (.int (Int32.ofNat o)), .val (.ref ba), .val (.ref la), .val (.long (4503599627370495 : Int64)), .second, .val (.long (q4 &&& (4503599627370495 : Int64))), .second, .val (.long ((XT.ushrL q4 (52 : Int32)) ||| ((q3 <<< (((12 : Int32)).toInt64 &&& 63)) &&& (4503599627370495 : Int64)))), .second, .val (.long ((XT.ushrL q3 (40 : Int32)) ||| ((q2 <<< (((24 : Int32)).toInt64 &&& 63)) &&& (4503599627370495 : Int64)))), .second, .val (.long ((XT.ushrL q2 (28 : Int32)) ||| ((q1 <<< (((36 : Int32)).toInt64 &&& 63)) &&& (4503599627370495 : Int64)))), .second, .val (.long (XT.ushrL q1 (16 : Int32))), .second] [(.int (lcmpW (v 1) ((XT.ushrL q4 (52 : Int32)) ||| ((q3 <<< (((12 : Int32)).toInt64 &&& 63)) &&& (4503599627370495 : Int64)))))])) _
  refine XS.ifNo X0.here hx rfl (hb hby at_180) rfl ((if0 _ _).trans (teq ((lw_eq _ _).mpr hv1)).2) ?_
  show Steps p.tables e below (T0.setTop (mkF m 183 #[.val (.long q1), .second, .val (.long q2), .second, .val (.long q3), .second, .val (.long q4), .second, .val (.int p5), .val (.long q6), .second, .val (.int (Int32.ofNat o)), .val (.ref ba), .val (.ref la), .val (.long (4503599627370495 : Int64)), .second, .val (.long (q4 &&& (4503599627370495 : Int64))), .second, .val (.long ((XT.ushrL q4 (52 : Int32)) ||| ((q3 <<< (((12 : Int32)).toInt64 &&& 63)) &&& (4503599627370495 : Int64)))), .second, .val (.long ((XT.ushrL q3 (40 : Int32)) ||| ((q2 <<< (((24 : Int32)).toInt64 &&& 63)) &&& (4503599627370495 : Int64)))), .second, .val (.long ((XT.ushrL q2 (28 : Int32)) ||| ((q1 <<< (((36 : Int32)).toInt64 &&& 63)) &&& (4503599627370495 : Int64)))), .second, .val (.long (XT.ushrL q1 (16 : Int32))), .second] [])) _
  refine XS.aload X0.here hx rfl (hb hby at_183) rfl rfl ?_
  show Steps p.tables e below (T0.setTop (mkF m 185 #[.val (.long q1), .second, .val (.long q2), .second, .val (.long q3), .second, .val (.long q4), .second, .val (.int p5), .val (.long q6), .second, .val (.int (Int32.ofNat o)), .val (.ref ba), .val (.ref la), .val (.long (4503599627370495 : Int64)), .second, .val (.long (q4 &&& (4503599627370495 : Int64))), .second, .val (.long ((XT.ushrL q4 (52 : Int32)) ||| ((q3 <<< (((12 : Int32)).toInt64 &&& 63)) &&& (4503599627370495 : Int64)))), .second, .val (.long ((XT.ushrL q3 (40 : Int32)) ||| ((q2 <<< (((24 : Int32)).toInt64 &&& 63)) &&& (4503599627370495 : Int64)))), .second, .val (.long ((XT.ushrL q2 (28 : Int32)) ||| ((q1 <<< (((36 : Int32)).toInt64 &&& 63)) &&& (4503599627370495 : Int64)))), .second, .val (.long (XT.ushrL q1 (16 : Int32))), .second] [(.ref la)])) _
  refine XS.iconst X0.here hx rfl (hb hby at_185) ?_
  show Steps p.tables e below (T0.setTop (mkF m 186 #[.val (.long q1), .second, .val (.long q2), .second, .val (.long q3), .second, .val (.long q4), .second, .val (.int p5), .val (.long q6), .second, .val (.int (Int32.ofNat o)), .val (.ref ba), .val (.ref la), .val (.long (4503599627370495 : Int64)), .second, .val (.long (q4 &&& (4503599627370495 : Int64))), .second, .val (.long ((XT.ushrL q4 (52 : Int32)) ||| ((q3 <<< (((12 : Int32)).toInt64 &&& 63)) &&& (4503599627370495 : Int64)))), .second, .val (.long ((XT.ushrL q3 (40 : Int32)) ||| ((q2 <<< (((24 : Int32)).toInt64 &&& 63)) &&& (4503599627370495 : Int64)))), .second, .val (.long ((XT.ushrL q2 (28 : Int32)) ||| ((q1 <<< (((36 : Int32)).toInt64 &&& 63)) &&& (4503599627370495 : Int64)))), .second, .val (.long (XT.ushrL q1 (16 : Int32))), .second] [(.int (2 : Int32)), (.ref la)])) _
  refine X0.laload hx (j := (2 : Int32)) (v := (.long (v 2))) (by rw [e0]; exact ArA.1) (State.isArrayOf_alike hZ.alike ArA.2.1) ArA.2.2 (by rw [SA]; decide) (show cA.slots[(2 : Int32).toNatClampNeg]? = _ from HA 2 (by decide)) (g := (mkF m 186 #[.val (.long q1), .second, .val (.long q2), .second, .val (.long q3), .second, .val (.long q4), .second, .val (.int p5), .val (.long q6), .second, .val (.int (Int32.ofNat o)), .val (.ref ba), .val (.ref la), .val (.long (4503599627370495 : Int64)), .second, .val (.long (q4 &&& (4503599627370495 : Int64))), .second, .val (.long ((XT.ushrL q4 (52 : Int32)) ||| ((q3 <<< (((12 : Int32)).toInt64 &&& 63)) &&& (4503599627370495 : Int64)))), .second, .val (.long ((XT.ushrL q3 (40 : Int32)) ||| ((q2 <<< (((24 : Int32)).toInt64 &&& 63)) &&& (4503599627370495 : Int64)))), .second, .val (.long ((XT.ushrL q2 (28 : Int32)) ||| ((q1 <<< (((36 : Int32)).toInt64 &&& 63)) &&& (4503599627370495 : Int64)))), .second, .val (.long (XT.ushrL q1 (16 : Int32))), .second] [(.int (2 : Int32)), (.ref la)])) rfl rfl (hb hby at_186) _ ?_
  show Steps p.tables e below (T0.setTop (mkF m 187 #[.val (.long q1), .second, .val (.long q2), .second, .val (.long q3), .second, .val (.long q4), .second, .val (.int p5), .val (.long q6), .second, .val (.int (Int32.ofNat o)), .val (.ref ba), .val (.ref la), .val (.long (4503599627370495 : Int64)), .second, .val (.long (q4 &&& (4503599627370495 : Int64))), .second, .val (.long ((XT.ushrL q4 (52 : Int32)) ||| ((q3 <<< (((12 : Int32)).toInt64 &&& 63)) &&& (4503599627370495 : Int64)))), .second, .val (.long ((XT.ushrL q3 (40 : Int32)) ||| ((q2 <<< (((24 : Int32)).toInt64 &&& 63)) &&& (4503599627370495 : Int64)))), .second, .val (.long ((XT.ushrL q2 (28 : Int32)) ||| ((q1 <<< (((36 : Int32)).toInt64 &&& 63)) &&& (4503599627370495 : Int64)))), .second, .val (.long (XT.ushrL q1 (16 : Int32))), .second] [(.long (v 2))])) _
  refine XS.lload X0.here hx rfl (hb hby at_187) rfl ?_
  show Steps p.tables e below (T0.setTop (mkF m 189 #[.val (.long q1), .second, .val (.long q2), .second, .val (.long q3), .second, .val (.long q4), .second, .val (.int p5), .val (.long q6), .second, .val (.int (Int32.ofNat o)), .val (.ref ba), .val (.ref la), .val (.long (4503599627370495 : Int64)), .second, .val (.long (q4 &&& (4503599627370495 : Int64))), .second, .val (.long ((XT.ushrL q4 (52 : Int32)) ||| ((q3 <<< (((12 : Int32)).toInt64 &&& 63)) &&& (4503599627370495 : Int64)))), .second, .val (.long ((XT.ushrL q3 (40 : Int32)) ||| ((q2 <<< (((24 : Int32)).toInt64 &&& 63)) &&& (4503599627370495 : Int64)))), .second, .val (.long ((XT.ushrL q2 (28 : Int32)) ||| ((q1 <<< (((36 : Int32)).toInt64 &&& 63)) &&& (4503599627370495 : Int64)))), .second, .val (.long (XT.ushrL q1 (16 : Int32))), .second] [(.long ((XT.ushrL q3 (40 : Int32)) ||| ((q2 <<< (((24 : Int32)).toInt64 &&& 63)) &&& (4503599627370495 : Int64)))), (.long (v 2))])) _
  refine XS.lcmp X0.here hx rfl (hb hby at_189) rfl ?_
  show Steps p.tables e below (T0.setTop (mkF m 190 #[.val (.long q1), .second, .val (.long q2), .second, .val (.long q3), .second, .val (.long q4), .second, .val (.int p5), .val (.long q6), .second, .val (.int (Int32.ofNat o)), .val (.ref ba), .val (.ref la), .val (.long (4503599627370495 : Int64)), .second, .val (.long (q4 &&& (4503599627370495 : Int64))), .second, .val (.long ((XT.ushrL q4 (52 : Int32)) ||| ((q3 <<< (((12 : Int32)).toInt64 &&& 63)) &&& (4503599627370495 : Int64)))), .second, .val (.long ((XT.ushrL q3 (40 : Int32)) ||| ((q2 <<< (((24 : Int32)).toInt64 &&& 63)) &&& (4503599627370495 : Int64)))), .second, .val (.long ((XT.ushrL q2 (28 : Int32)) ||| ((q1 <<< (((36 : Int32)).toInt64 &&& 63)) &&& (4503599627370495 : Int64)))), .second, .val (.long (XT.ushrL q1 (16 : Int32))), .second] [(.int (lcmpW (v 2) ((XT.ushrL q3 (40 : Int32)) ||| ((q2 <<< (((24 : Int32)).toInt64 &&& 63)) &&& (4503599627370495 : Int64)))))])) _
  refine XS.ifNo X0.here hx rfl (hb hby at_190) rfl ((if0 _ _).trans (teq ((lw_eq _ _).mpr hv2)).2) ?_
  show Steps p.tables e below (T0.setTop (mkF m 193 #[.val (.long q1), .second, .val (.long q2), .second, .val (.long q3), .second, .val (.long q4), .second, .val (.int p5), .val (.long q6), .second, .val (.int (Int32.ofNat o)), .val (.ref ba), .val (.ref la), .val (.long (4503599627370495 : Int64)), .second, .val (.long (q4 &&& (4503599627370495 : Int64))), .second, .val (.long ((XT.ushrL q4 (52 : Int32)) ||| ((q3 <<< (((12 : Int32)).toInt64 &&& 63)) &&& (4503599627370495 : Int64)))), .second, .val (.long ((XT.ushrL q3 (40 : Int32)) ||| ((q2 <<< (((24 : Int32)).toInt64 &&& 63)) &&& (4503599627370495 : Int64)))), .second, .val (.long ((XT.ushrL q2 (28 : Int32)) ||| ((q1 <<< (((36 : Int32)).toInt64 &&& 63)) &&& (4503599627370495 : Int64)))), .second, .val (.long (XT.ushrL q1 (16 : Int32))), .second] [])) _
  refine XS.aload X0.here hx rfl (hb hby at_193) rfl rfl ?_
  show Steps p.tables e below (T0.setTop (mkF m 195 #[.val (.long q1), .second, .val (.long q2), .second, .val (.long q3), .second, .val (.long q4), .second, .val (.int p5), .val (.long q6), .second, .val (.int (Int32.ofNat o)), .val (.ref ba), .val (.ref la), .val (.long (4503599627370495 : Int64)), .second, .val (.long (q4 &&& (4503599627370495 : Int64))), .second, .val (.long ((XT.ushrL q4 (52 : Int32)) ||| ((q3 <<< (((12 : Int32)).toInt64 &&& 63)) &&& (4503599627370495 : Int64)))), .second, .val (.long ((XT.ushrL q3 (40 : Int32)) ||| ((q2 <<< (((24 : Int32)).toInt64 &&& 63)) &&& (4503599627370495 : Int64)))), .second, .val (.long ((XT.ushrL q2 (28 : Int32)) ||| ((q1 <<< (((36 : Int32)).toInt64 &&& 63)) &&& (4503599627370495 : Int64)))), .second, .val (.long (XT.ushrL q1 (16 : Int32))), .second] [(.ref la)])) _
  refine XS.iconst X0.here hx rfl (hb hby at_195) ?_
  show Steps p.tables e below (T0.setTop (mkF m 196 #[.val (.long q1), .second, .val (.long q2), .second, .val (.long q3), .second, .val (.long q4), .second, .val (.int p5), .val (.long q6), .second, .val (.int (Int32.ofNat o)), .val (.ref ba), .val (.ref la), .val (.long (4503599627370495 : Int64)), .second, .val (.long (q4 &&& (4503599627370495 : Int64))), .second, .val (.long ((XT.ushrL q4 (52 : Int32)) ||| ((q3 <<< (((12 : Int32)).toInt64 &&& 63)) &&& (4503599627370495 : Int64)))), .second, .val (.long ((XT.ushrL q3 (40 : Int32)) ||| ((q2 <<< (((24 : Int32)).toInt64 &&& 63)) &&& (4503599627370495 : Int64)))), .second, .val (.long ((XT.ushrL q2 (28 : Int32)) ||| ((q1 <<< (((36 : Int32)).toInt64 &&& 63)) &&& (4503599627370495 : Int64)))), .second, .val (.long (XT.ushrL q1 (16 : Int32))), .second] [(.int (3 : Int32)), (.ref la)])) _
  refine X0.laload hx (j := (3 : Int32)) (v := (.long (v 3))) (by rw [e0]; exact ArA.1) (State.isArrayOf_alike hZ.alike ArA.2.1) ArA.2.2 (by rw [SA]; decide) (show cA.slots[(3 : Int32).toNatClampNeg]? = _ from HA 3 (by decide)) (g := (mkF m 196 #[.val (.long q1), .second, .val (.long q2), .second, .val (.long q3), .second, .val (.long q4), .second, .val (.int p5), .val (.long q6), .second, .val (.int (Int32.ofNat o)), .val (.ref ba), .val (.ref la), .val (.long (4503599627370495 : Int64)), .second, .val (.long (q4 &&& (4503599627370495 : Int64))), .second, .val (.long ((XT.ushrL q4 (52 : Int32)) ||| ((q3 <<< (((12 : Int32)).toInt64 &&& 63)) &&& (4503599627370495 : Int64)))), .second, .val (.long ((XT.ushrL q3 (40 : Int32)) ||| ((q2 <<< (((24 : Int32)).toInt64 &&& 63)) &&& (4503599627370495 : Int64)))), .second, .val (.long ((XT.ushrL q2 (28 : Int32)) ||| ((q1 <<< (((36 : Int32)).toInt64 &&& 63)) &&& (4503599627370495 : Int64)))), .second, .val (.long (XT.ushrL q1 (16 : Int32))), .second] [(.int (3 : Int32)), (.ref la)])) rfl rfl (hb hby at_196) _ ?_
  show Steps p.tables e below (T0.setTop (mkF m 197 #[.val (.long q1), .second, .val (.long q2), .second, .val (.long q3), .second, .val (.long q4), .second, .val (.int p5), .val (.long q6), .second, .val (.int (Int32.ofNat o)), .val (.ref ba), .val (.ref la), .val (.long (4503599627370495 : Int64)), .second, .val (.long (q4 &&& (4503599627370495 : Int64))), .second, .val (.long ((XT.ushrL q4 (52 : Int32)) ||| ((q3 <<< (((12 : Int32)).toInt64 &&& 63)) &&& (4503599627370495 : Int64)))), .second, .val (.long ((XT.ushrL q3 (40 : Int32)) ||| ((q2 <<< (((24 : Int32)).toInt64 &&& 63)) &&& (4503599627370495 : Int64)))), .second, .val (.long ((XT.ushrL q2 (28 : Int32)) ||| ((q1 <<< (((36 : Int32)).toInt64 &&& 63)) &&& (4503599627370495 : Int64)))), .second, .val (.long (XT.ushrL q1 (16 : Int32))), .second] [(.long (v 3))])) _
  refine XS.lload X0.here hx rfl (hb hby at_197) rfl ?_
  show Steps p.tables e below (T0.setTop (mkF m 199 #[.val (.long q1), .second, .val (.long q2), .second, .val (.long q3), .second, .val (.long q4), .second, .val (.int p5), .val (.long q6), .second, .val (.int (Int32.ofNat o)), .val (.ref ba), .val (.ref la), .val (.long (4503599627370495 : Int64)), .second, .val (.long (q4 &&& (4503599627370495 : Int64))), .second, .val (.long ((XT.ushrL q4 (52 : Int32)) ||| ((q3 <<< (((12 : Int32)).toInt64 &&& 63)) &&& (4503599627370495 : Int64)))), .second, .val (.long ((XT.ushrL q3 (40 : Int32)) ||| ((q2 <<< (((24 : Int32)).toInt64 &&& 63)) &&& (4503599627370495 : Int64)))), .second, .val (.long ((XT.ushrL q2 (28 : Int32)) ||| ((q1 <<< (((36 : Int32)).toInt64 &&& 63)) &&& (4503599627370495 : Int64)))), .second, .val (.long (XT.ushrL q1 (16 : Int32))), .second] [(.long ((XT.ushrL q2 (28 : Int32)) ||| ((q1 <<< (((36 : Int32)).toInt64 &&& 63)) &&& (4503599627370495 : Int64)))), (.long (v 3))])) _
  refine XS.lcmp X0.here hx rfl (hb hby at_199) rfl ?_
  show Steps p.tables e below (T0.setTop (mkF m 200 #[.val (.long q1), .second, .val (.long q2), .second, .val (.long q3), .second, .val (.long q4), .second, .val (.int p5), .val (.long q6), .second, .val (.int (Int32.ofNat o)), .val (.ref ba), .val (.ref la), .val (.long (4503599627370495 : Int64)), .second, .val (.long (q4 &&& (4503599627370495 : Int64))), .second, .val (.long ((XT.ushrL q4 (52 : Int32)) ||| ((q3 <<< (((12 : Int32)).toInt64 &&& 63)) &&& (4503599627370495 : Int64)))), .second, .val (.long ((XT.ushrL q3 (40 : Int32)) ||| ((q2 <<< (((24 : Int32)).toInt64 &&& 63)) &&& (4503599627370495 : Int64)))), .second, .val (.long ((XT.ushrL q2 (28 : Int32)) ||| ((q1 <<< (((36 : Int32)).toInt64 &&& 63)) &&& (4503599627370495 : Int64)))), .second, .val (.long (XT.ushrL q1 (16 : Int32))), .second] [(.int (lcmpW (v 3) ((XT.ushrL q2 (28 : Int32)) ||| ((q1 <<< (((36 : Int32)).toInt64 &&& 63)) &&& (4503599627370495 : Int64)))))])) _
  refine XS.ifNo X0.here hx rfl (hb hby at_200) rfl ((if0 _ _).trans (teq ((lw_eq _ _).mpr hv3)).2) ?_
  show Steps p.tables e below (T0.setTop (mkF m 203 #[.val (.long q1), .second, .val (.long q2), .second, .val (.long q3), .second, .val (.long q4), .second, .val (.int p5), .val (.long q6), .second, .val (.int (Int32.ofNat o)), .val (.ref ba), .val (.ref la), .val (.long (4503599627370495 : Int64)), .second, .val (.long (q4 &&& (4503599627370495 : Int64))), .second, .val (.long ((XT.ushrL q4 (52 : Int32)) ||| ((q3 <<< (((12 : Int32)).toInt64 &&& 63)) &&& (4503599627370495 : Int64)))), .second, .val (.long ((XT.ushrL q3 (40 : Int32)) ||| ((q2 <<< (((24 : Int32)).toInt64 &&& 63)) &&& (4503599627370495 : Int64)))), .second, .val (.long ((XT.ushrL q2 (28 : Int32)) ||| ((q1 <<< (((36 : Int32)).toInt64 &&& 63)) &&& (4503599627370495 : Int64)))), .second, .val (.long (XT.ushrL q1 (16 : Int32))), .second] [])) _
  refine XS.aload X0.here hx rfl (hb hby at_203) rfl rfl ?_
  show Steps p.tables e below (T0.setTop (mkF m 205 #[.val (.long q1), .second, .val (.long q2), .second, .val (.long q3), .second, .val (.long q4), .second, .val (.int p5), .val (.long q6), .second, .val (.int (Int32.ofNat o)), .val (.ref ba), .val (.ref la), .val (.long (4503599627370495 : Int64)), .second, .val (.long (q4 &&& (4503599627370495 : Int64))), .second, .val (.long ((XT.ushrL q4 (52 : Int32)) ||| ((q3 <<< (((12 : Int32)).toInt64 &&& 63)) &&& (4503599627370495 : Int64)))), .second, .val (.long ((XT.ushrL q3 (40 : Int32)) ||| ((q2 <<< (((24 : Int32)).toInt64 &&& 63)) &&& (4503599627370495 : Int64)))), .second, .val (.long ((XT.ushrL q2 (28 : Int32)) ||| ((q1 <<< (((36 : Int32)).toInt64 &&& 63)) &&& (4503599627370495 : Int64)))), .second, .val (.long (XT.ushrL q1 (16 : Int32))), .second] [(.ref la)])) _
  refine XS.iconst X0.here hx rfl (hb hby at_205) ?_
  show Steps p.tables e below (T0.setTop (mkF m 206 #[.val (.long q1), .second, .val (.long q2), .second, .val (.long q3), .second, .val (.long q4), .second, .val (.int p5), .val (.long q6), .second, .val (.int (Int32.ofNat o)), .val (.ref ba), .val (.ref la), .val (.long (4503599627370495 : Int64)), .second, .val (.long (q4 &&& (4503599627370495 : Int64))), .second, .val (.long ((XT.ushrL q4 (52 : Int32)) ||| ((q3 <<< (((12 : Int32)).toInt64 &&& 63)) &&& (4503599627370495 : Int64)))), .second, .val (.long ((XT.ushrL q3 (40 : Int32)) ||| ((q2 <<< (((24 : Int32)).toInt64 &&& 63)) &&& (4503599627370495 : Int64)))), .second, .val (.long ((XT.ushrL q2 (28 : Int32)) ||| ((q1 <<< (((36 : Int32)).toInt64 &&& 63)) &&& (4503599627370495 : Int64)))), .second, .val (.long (XT.ushrL q1 (16 : Int32))), .second] [(.int (4 : Int32)), (.ref la)])) _
  refine X0.laload hx (j := (4 : Int32)) (v := (.long (v 4))) (by rw [e0]; exact ArA.1) (State.isArrayOf_alike hZ.alike ArA.2.1) ArA.2.2 (by rw [SA]; decide) (show cA.slots[(4 : Int32).toNatClampNeg]? = _ from HA 4 (by decide)) (g := (mkF m 206 #[.val (.long q1), .second, .val (.long q2), .second, .val (.long q3), .second, .val (.long q4), .second, .val (.int p5), .val (.long q6), .second, .val (.int (Int32.ofNat o)), .val (.ref ba), .val (.ref la), .val (.long (4503599627370495 : Int64)), .second, .val (.long (q4 &&& (4503599627370495 : Int64))), .second, .val (.long ((XT.ushrL q4 (52 : Int32)) ||| ((q3 <<< (((12 : Int32)).toInt64 &&& 63)) &&& (4503599627370495 : Int64)))), .second, .val (.long ((XT.ushrL q3 (40 : Int32)) ||| ((q2 <<< (((24 : Int32)).toInt64 &&& 63)) &&& (4503599627370495 : Int64)))), .second, .val (.long ((XT.ushrL q2 (28 : Int32)) ||| ((q1 <<< (((36 : Int32)).toInt64 &&& 63)) &&& (4503599627370495 : Int64)))), .second, .val (.long (XT.ushrL q1 (16 : Int32))), .second] [(.int (4 : Int32)), (.ref la)])) rfl rfl (hb hby at_206) _ ?_
  show Steps p.tables e below (T0.setTop (mkF m 207 #[.val (.long q1), .second, .val (.long q2), .second, .val (.long q3), .second, .val (.long q4), .second, .val (.int p5), .val (.long q6), .second, .val (.int (Int32.ofNat o)), .val (.ref ba), .val (.ref la), .val (.long (4503599627370495 : Int64)), .second, .val (.long (q4 &&& (4503599627370495 : Int64))), .second, .val (.long ((XT.ushrL q4 (52 : Int32)) ||| ((q3 <<< (((12 : Int32)).toInt64 &&& 63)) &&& (4503599627370495 : Int64)))), .second, .val (.long ((XT.ushrL q3 (40 : Int32)) ||| ((q2 <<< (((24 : Int32)).toInt64 &&& 63)) &&& (4503599627370495 : Int64)))), .second, .val (.long ((XT.ushrL q2 (28 : Int32)) ||| ((q1 <<< (((36 : Int32)).toInt64 &&& 63)) &&& (4503599627370495 : Int64)))), .second, .val (.long (XT.ushrL q1 (16 : Int32))), .second] [(.long (v 4))])) _
  refine XS.lload X0.here hx rfl (hb hby at_207) rfl ?_
  show Steps p.tables e below (T0.setTop (mkF m 209 #[.val (.long q1), .second, .val (.long q2), .second, .val (.long q3), .second, .val (.long q4), .second, .val (.int p5), .val (.long q6), .second, .val (.int (Int32.ofNat o)), .val (.ref ba), .val (.ref la), .val (.long (4503599627370495 : Int64)), .second, .val (.long (q4 &&& (4503599627370495 : Int64))), .second, .val (.long ((XT.ushrL q4 (52 : Int32)) ||| ((q3 <<< (((12 : Int32)).toInt64 &&& 63)) &&& (4503599627370495 : Int64)))), .second, .val (.long ((XT.ushrL q3 (40 : Int32)) ||| ((q2 <<< (((24 : Int32)).toInt64 &&& 63)) &&& (4503599627370495 : Int64)))), .second, .val (.long ((XT.ushrL q2 (28 : Int32)) ||| ((q1 <<< (((36 : Int32)).toInt64 &&& 63)) &&& (4503599627370495 : Int64)))), .second, .val (.long (XT.ushrL q1 (16 : Int32))), .second] [(.long (XT.ushrL q1 (16 : Int32))), (.long (v 4))])) _
  refine XS.lcmp X0.here hx rfl (hb hby at_209) rfl ?_
  show Steps p.tables e below (T0.setTop (mkF m 210 #[.val (.long q1), .second, .val (.long q2), .second, .val (.long q3), .second, .val (.long q4), .second, .val (.int p5), .val (.long q6), .second, .val (.int (Int32.ofNat o)), .val (.ref ba), .val (.ref la), .val (.long (4503599627370495 : Int64)), .second, .val (.long (q4 &&& (4503599627370495 : Int64))), .second, .val (.long ((XT.ushrL q4 (52 : Int32)) ||| ((q3 <<< (((12 : Int32)).toInt64 &&& 63)) &&& (4503599627370495 : Int64)))), .second, .val (.long ((XT.ushrL q3 (40 : Int32)) ||| ((q2 <<< (((24 : Int32)).toInt64 &&& 63)) &&& (4503599627370495 : Int64)))), .second, .val (.long ((XT.ushrL q2 (28 : Int32)) ||| ((q1 <<< (((36 : Int32)).toInt64 &&& 63)) &&& (4503599627370495 : Int64)))), .second, .val (.long (XT.ushrL q1 (16 : Int32))), .second] [(.int (lcmpW (v 4) (XT.ushrL q1 (16 : Int32))))])) _
  refine XS.ifNo X0.here hx rfl (hb hby at_210) rfl ((if0 _ _).trans (teq ((lw_eq _ _).mpr hv4)).2) ?_
  show Steps p.tables e below (T0.setTop (mkF m 213 #[.val (.long q1), .second, .val (.long q2), .second, .val (.long q3), .second, .val (.long q4), .second, .val (.int p5), .val (.long q6), .second, .val (.int (Int32.ofNat o)), .val (.ref ba), .val (.ref la), .val (.long (4503599627370495 : Int64)), .second, .val (.long (q4 &&& (4503599627370495 : Int64))), .second, .val (.long ((XT.ushrL q4 (52 : Int32)) ||| ((q3 <<< (((12 : Int32)).toInt64 &&& 63)) &&& (4503599627370495 : Int64)))), .second, .val (.long ((XT.ushrL q3 (40 : Int32)) ||| ((q2 <<< (((24 : Int32)).toInt64 &&& 63)) &&& (4503599627370495 : Int64)))), .second, .val (.long ((XT.ushrL q2 (28 : Int32)) ||| ((q1 <<< (((36 : Int32)).toInt64 &&& 63)) &&& (4503599627370495 : Int64)))), .second, .val (.long (XT.ushrL q1 (16 : Int32))), .second] [])) _
  refine XS.iconst X0.here hx rfl (hb hby at_213) ?_
  show Steps p.tables e below (T0.setTop (mkF m 214 #[.val (.long q1), .second, .val (.long q2), .second, .val (.long q3), .second, .val (.long q4), .second, .val (.int p5), .val (.long q6), .second, .val (.int (Int32.ofNat o)), .val (.ref ba), .val (.ref la), .val (.long (4503599627370495 : Int64)), .second, .val (.long (q4 &&& (4503599627370495 : Int64))), .second, .val (.long ((XT.ushrL q4 (52 : Int32)) ||| ((q3 <<< (((12 : Int32)).toInt64 &&& 63)) &&& (4503599627370495 : Int64)))), .second, .val (.long ((XT.ushrL q3 (40 : Int32)) ||| ((q2 <<< (((24 : Int32)).toInt64 &&& 63)) &&& (4503599627370495 : Int64)))), .second, .val (.long ((XT.ushrL q2 (28 : Int32)) ||| ((q1 <<< (((36 : Int32)).toInt64 &&& 63)) &&& (4503599627370495 : Int64)))), .second, .val (.long (XT.ushrL q1 (16 : Int32))), .second] [(.int (1 : Int32))])) _
  refine XS.goto X0.here hx rfl (pc0 := 214) (pc' := 218) rfl (hb hby at_214) (by decide) (by decide) ?_
  exact kt
theorem pn_0 : plainName "ownclaim/jose/LimbsFromBytesPinLaw" = true := pn_1
theorem ef_0 (m : MethodId) (x0 x1 x2 x3 : Int64) (x4 : Int32) (x5 : Int64) : entryFrame m #[(.long x0), (.long x1), (.long x2), (.long x3), (.int x4), (.long x5)] maxLocals = mkF m 0 #[.val (.long x0), .second, .val (.long x1), .second, .val (.long x2), .second, .val (.long x3), .second, .val (.int x4), .val (.long x5), .second, .unset, .unset, .unset, .unset, .unset, .unset, .unset, .unset, .unset, .unset, .unset, .unset, .unset, .unset, .unset] [] := by first | (simp [entryFrame, mkF, argsToLocals, Value.category, maxLocals]; done) | rfl
def Q0 (n0 : Nat) (v : Option Value) (L : List Loc) : Prop := v = some (.int (1 : Int32)) ∧ Fr n0 L
set_option maxRecDepth 65536 in
set_option maxHeartbeats 40000000 in
theorem rm0 (l : Launch) (Z : State) (a0 : Array Value) (hw : ∀ d ∈ tables_1, d.before a0 Z = true) (ws : List Jvm.Cond) (q1 q2 q3 q4 : Int64) (p5 : Int32) (q6 : Int64) (h0 : Heap) (n0 : Nat) (Z0 : n0 ≤ h0.size) :
    MetFree l x (head1 (Jvm.Cond.code x code maxLocals ret :: ws) room_1) (fun a U => a = #[(.long q1), (.long q2), (.long q3), (.long q4), (.int p5), (.long q6)] ∧ Z.Warmed39 U.vm ∧ U.heap = h0) (fun _ _ _ _ _ => True) (fun _ U o U' => ∃ v L, o = .returned v ∧ Q0 n0 v L ∧ FrameEnd U o U' L room_1.cells room_1.slots) := by
  refine MetFree.of_bodySF (plainFor_of_name pn_0) hisR ?_
  intro p e s m args below meth c s₁ Bd hml0 hP hK
  obtain ⟨rfl, hZ, hh⟩ := hP
  have hx := Bd.exec
  have hby := Bd.bytes
  have hml : c.maxLocals = 26 := hml0
  have hown : s.vm.findClass "ownclaim/jose/LimbsFromBytesPinLaw" = some m.cls := findClass_of_methodNamed Bd.named
  have X0 : Stand p l e room_1 s m #[(.long q1), (.long q2), (.long q3), (.long q4), (.int p5), (.long q6)] below meth c s₁ [] 0 0 := Stand.of_body Bd
  have e0 : s₁.heap = h0 := by rw [← hh, Bd.state]; rfl
  have N0 := Fr.nil n0
  have pre0 : ∀ t, Steps p.tables e below (s₁.setTop (mkF m 0 #[.val (.long q1), .second, .val (.long q2), .second, .val (.long q3), .second, .val (.long q4), .second, .val (.int p5), .val (.long q6), .second, .unset, .unset, .unset, .unset, .unset, .unset, .unset, .unset, .unset, .unset, .unset, .unset, .unset, .unset, .unset] [])) t → Steps p.tables e below (s₁.setTop (entryFrame m #[(.long q1), (.long q2), (.long q3), (.long q4), (.int p5), (.long q6)] maxLocals)) t := fun t k => castTop (ef_0 m q1 q2 q3 q4 p5 q6) k
  obtain ⟨o, ho, en⟩ := own_off p5
  obtain ⟨T1, h1, k1, X1, e1, E1, A1, st1⟩ := newP X0 hx hZ (hw _ (List.mem_of_getElem? (i := 0) rfl)) e0 (g := (mkF m 9 #[.val (.long q1), .second, .val (.long q2), .second, .val (.long q3), .second, .val (.long q4), .second, .val (.int p5), .val (.long q6), .second, .val (.int (Int32.ofNat o)), .unset, .unset, .unset, .unset, .unset, .unset, .unset, .unset, .unset, .unset, .unset, .unset, .unset, .unset] [(.int (40 : Int32))])) rfl (hb hby at_9) rfl (by decide) (cap := 40) (by decide) (by decide) (by decide) (by decide)
  obtain ⟨ba, gb⟩ : ∃ z, z = h0.size := ⟨_, rfl⟩
  rw [← gb] at A1 st1
  have V1 : AF Z h1 ba .byte 40 (fun j => .int ((fun _ => (0 : Int32)) j)) := AF.new A1 (by decide)
  have Z1 : n0 ≤ h1.size := Nat.le_trans Z0 E1.1
  have gba : n0 ≤ ba := by rw [gb]; exact Z0
  have N1 := N0
  obtain ⟨_, _, ⟨T2, L2, k2, n2⟩, -, X2, ⟨Lc2, hQ2, l2, y2, z2⟩, st2⟩ := Jvm.LawKit.callS X1 hx (y := (⟨"ownclaim/jose/LimbsFromBytesPinLaw", "put", "([BIJ)V"⟩ : MethodName)) hown (mvT hZ (hw _ (List.mem_of_getElem? (i := 1) rfl))) (mvT hZ (hw _ (List.mem_of_getElem? (i := 2) rfl))) (mvT hZ (hw _ (List.mem_of_getElem? (i := 3) rfl))) (mvT hZ (hw _ (List.mem_of_getElem? (i := 4) rfl))) (by decide) (backOf (W := 0) (rm1 l Z a0 hw [] ba (0 : Int32) q6 0 (fun _ => (0 : Int32)) h1 n0 Z1 gba (rfl : (0 : Int32) = Int32.ofNat 0) (by omega) V1) hZ (hw _ (List.mem_of_getElem? (i := 4) rfl)) (hw _ (List.mem_of_getElem? (i := 3) rfl)) (by decide) (by decide)) (g := (mkF m 18 #[.val (.long q1), .second, .val (.long q2), .second, .val (.long q3), .second, .val (.long q4), .second, .val (.int p5), .val (.long q6), .second, .val (.int (Int32.ofNat o)), .val (.ref ba), .unset, .unset, .unset, .unset, .unset, .unset, .unset, .unset, .unset, .unset, .unset, .unset, .unset] [(.long q6), (.int (0 : Int32)), (.ref ba)])) rfl (by rw [hml]; rfl) (argsL := [(.ref ba), (.int (0 : Int32)), (.long q6)]) (rest := []) (lenOf pd_0_put rfl) rfl (by show 2 * 0 + _ ≤ _; exact Nat.le_of_eq rfl) (hb hby at_18) (fun _ _ => ⟨rfl, e1, (by decide : 1 + 0 ≤ _), (by decide : 40 + 0 ≤ _)⟩)
  dsimp only [Pt.U, Pt.locs, Pt.cells, Pt.slots] at X2 l2 y2 z2 st2 hQ2
  subst l2 y2 z2
  obtain ⟨rfl, N2q, K2, V2⟩ := hQ2
  have N2 := Fr.app N1 N2q
  have e2 : T2.heap = T2.heap := rfl
  have Z2 : n0 ≤ T2.heap.size := Nat.le_trans Z1 K2.1
  obtain ⟨_, _, ⟨T3, L3, k3, n3⟩, -, X3, ⟨Lc3, hQ3, l3, y3, z3⟩, st3⟩ := Jvm.LawKit.callS X2 hx (y := (⟨"ownclaim/jose/LimbsFromBytesPinLaw", "put", "([BIJ)V"⟩ : MethodName)) hown (mvT hZ (hw _ (List.mem_of_getElem? (i := 1) rfl))) (mvT hZ (hw _ (List.mem_of_getElem? (i := 2) rfl))) (mvT hZ (hw _ (List.mem_of_getElem? (i := 3) rfl))) (mvT hZ (hw _ (List.mem_of_getElem? (i := 4) rfl))) (by decide) (backOf (W := 0) (rm1 l Z a0 hw [] ba (32 : Int32) (q6 ^^^ (-1 : Int64)) 32 (own_put (fun _ => (0 : Int32)) 0 q6) T2.heap n0 Z2 gba (rfl : (32 : Int32) = Int32.ofNat 32) (by omega) V2) hZ (hw _ (List.mem_of_getElem? (i := 4) rfl)) (hw _ (List.mem_of_getElem? (i := 3) rfl)) (by decide) (by decide)) (g := (mkF m 31 #[.val (.long q1), .second, .val (.long q2), .second, .val (.long q3), .second, .val (.long q4), .second, .val (.int p5), .val (.long q6), .second, .val (.int (Int32.ofNat o)), .val (.ref ba), .unset, .unset, .unset, .unset, .unset, .unset, .unset, .unset, .unset, .unset, .unset, .unset, .unset] [(.long (q6 ^^^ (-1 : Int64))), (.int (32 : Int32)), (.ref ba)])) rfl (by rw [hml]; rfl) (argsL := [(.ref ba), (.int (32 : Int32)), (.long (q6 ^^^ (-1 : Int64)))]) (rest := []) (lenOf pd_0_put rfl) rfl (by show 2 * 0 + _ ≤ _; exact Nat.le_of_eq rfl) (hb hby at_31) (fun _ _ => ⟨rfl, e2, (by decide : 1 + 0 ≤ _), (by decide : 40 + 0 ≤ _)⟩)
  dsimp only [Pt.U, Pt.locs, Pt.cells, Pt.slots] at X3 l3 y3 z3 st3 hQ3
  subst l3 y3 z3
  obtain ⟨rfl, N3q, K3, V3⟩ := hQ3
  have N3 := Fr.app N2 N3q
  have e3 : T3.heap = T3.heap := rfl
  have Z3 : n0 ≤ T3.heap.size := Nat.le_trans Z2 K3.1
  obtain ⟨_, _, ⟨T4, L4, k4, n4⟩, -, X4, ⟨Lc4, hQ4, l4, y4, z4⟩, st4⟩ := Jvm.LawKit.callS X3 hx (y := (⟨"ownclaim/jose/LimbsFromBytesPinLaw", "put", "([BIJ)V"⟩ : MethodName)) hown (mvT hZ (hw _ (List.mem_of_getElem? (i := 1) rfl))) (mvT hZ (hw _ (List.mem_of_getElem? (i := 2) rfl))) (mvT hZ (hw _ (List.mem_of_getElem? (i := 3) rfl))) (mvT hZ (hw _ (List.mem_of_getElem? (i := 4) rfl))) (by decide) (backOf (W := 0) (rm1 l Z a0 hw [] ba (Int32.ofNat o) q1 o (own_put (own_put (fun _ => (0 : Int32)) 0 q6) 32 (q6 ^^^ (-1 : Int64))) T3.heap n0 Z3 gba rfl (by omega) V3) hZ (hw _ (List.mem_of_getElem? (i := 4) rfl)) (hw _ (List.mem_of_getElem? (i := 3) rfl)) (by decide) (by decide)) (g := (mkF m 39 #[.val (.long q1), .second, .val (.long q2), .second, .val (.long q3), .second, .val (.long q4), .second, .val (.int p5), .val (.long q6), .second, .val (.int (Int32.ofNat o)), .val (.ref ba), .unset, .unset, .unset, .unset, .unset, .unset, .unset, .unset, .unset, .unset, .unset, .unset, .unset] [(.long q1), (.int (Int32.ofNat o)), (.ref ba)])) rfl (by rw [hml]; rfl) (argsL := [(.ref ba), (.int (Int32.ofNat o)), (.long q1)]) (rest := []) (lenOf pd_0_put rfl) rfl (by show 2 * 0 + _ ≤ _; exact Nat.le_of_eq rfl) (hb hby at_39) (fun _ _ => ⟨rfl, e3, (by decide : 1 + 0 ≤ _), (by decide : 40 + 0 ≤ _)⟩)
  dsimp only [Pt.U, Pt.locs, Pt.cells, Pt.slots] at X4 l4 y4 z4 st4 hQ4
  subst l4 y4 z4
  obtain ⟨rfl, N4q, K4, V4⟩ := hQ4
  have N4 := Fr.app N3 N4q
  have e4 : T4.heap = T4.heap := rfl
  have Z4 : n0 ≤ T4.heap.size := Nat.le_trans Z3 K4.1
  obtain ⟨_, _, ⟨T5, L5, k5, n5⟩, -, X5, ⟨Lc5, hQ5, l5, y5, z5⟩, st5⟩ := Jvm.LawKit.callS X4 hx (y := (⟨"ownclaim/jose/LimbsFromBytesPinLaw", "put", "([BIJ)V"⟩ : MethodName)) hown (mvT hZ (hw _ (List.mem_of_getElem? (i := 1) rfl))) (mvT hZ (hw _ (List.mem_of_getElem? (i := 2) rfl))) (mvT hZ (hw _ (List.mem_of_getElem? (i := 3) rfl))) (mvT hZ (hw _ (List.mem_of_getElem? (i := 4) rfl))) (by decide) (backOf (W := 0) (rm1 l Z a0 hw [] ba (Int32.ofNat o + (8 : Int32)) q2 (o + 8) (own_put (own_put (own_put (fun _ => (0 : Int32)) 0 q6) 32 (q6 ^^^ (-1 : Int64))) o q1) T4.heap n0 Z4 gba (own_add o 8) (by omega) V4) hZ (hw _ (List.mem_of_getElem? (i := 4) rfl)) (hw _ (List.mem_of_getElem? (i := 3) rfl)) (by decide) (by decide)) (g := (mkF m 50 #[.val (.long q1), .second, .val (.long q2), .second, .val (.long q3), .second, .val (.long q4), .second, .val (.int p5), .val (.long q6), .second, .val (.int (Int32.ofNat o)), .val (.ref ba), .unset, .unset, .unset, .unset, .unset, .unset, .unset, .unset, .unset, .unset, .unset, .unset, .unset] [(.long q2), (.int ((Int32.ofNat o) + (8 : Int32))), (.ref ba)])) rfl (by rw [hml]; rfl) (argsL := [(.ref ba), (.int (Int32.ofNat o + (8 : Int32))), (.long q2)]) (rest := []) (lenOf pd_0_put rfl) rfl (by show 2 * 0 + _ ≤ _; exact Nat.le_of_eq rfl) (hb hby at_50) (fun _ _ => ⟨rfl, e4, (by decide : 1 + 0 ≤ _), (by decide : 40 + 0 ≤ _)⟩)
  dsimp only [Pt.U, Pt.locs, Pt.cells, Pt.slots] at X5 l5 y5 z5 st5 hQ5
  subst l5 y5 z5
  obtain ⟨rfl, N5q, K5, V5⟩ := hQ5
  have N5 := Fr.app N4 N5q
  have e5 : T5.heap = T5.heap := rfl
  have Z5 : n0 ≤ T5.heap.size := Nat.le_trans Z4 K5.1
  obtain ⟨_, _, ⟨T6, L6, k6, n6⟩, -, X6, ⟨Lc6, hQ6, l6, y6, z6⟩, st6⟩ := Jvm.LawKit.callS X5 hx (y := (⟨"ownclaim/jose/LimbsFromBytesPinLaw", "put", "([BIJ)V"⟩ : MethodName)) hown (mvT hZ (hw _ (List.mem_of_getElem? (i := 1) rfl))) (mvT hZ (hw _ (List.mem_of_getElem? (i := 2) rfl))) (mvT hZ (hw _ (List.mem_of_getElem? (i := 3) rfl))) (mvT hZ (hw _ (List.mem_of_getElem? (i := 4) rfl))) (by decide) (backOf (W := 0) (rm1 l Z a0 hw [] ba (Int32.ofNat o + (16 : Int32)) q3 (o + 16) (own_put (own_put (own_put (own_put (fun _ => (0 : Int32)) 0 q6) 32 (q6 ^^^ (-1 : Int64))) o q1) (o + 8) q2) T5.heap n0 Z5 gba (own_add o 16) (by omega) V5) hZ (hw _ (List.mem_of_getElem? (i := 4) rfl)) (hw _ (List.mem_of_getElem? (i := 3) rfl)) (by decide) (by decide)) (g := (mkF m 62 #[.val (.long q1), .second, .val (.long q2), .second, .val (.long q3), .second, .val (.long q4), .second, .val (.int p5), .val (.long q6), .second, .val (.int (Int32.ofNat o)), .val (.ref ba), .unset, .unset, .unset, .unset, .unset, .unset, .unset, .unset, .unset, .unset, .unset, .unset, .unset] [(.long q3), (.int ((Int32.ofNat o) + (16 : Int32))), (.ref ba)])) rfl (by rw [hml]; rfl) (argsL := [(.ref ba), (.int (Int32.ofNat o + (16 : Int32))), (.long q3)]) (rest := []) (lenOf pd_0_put rfl) rfl (by show 2 * 0 + _ ≤ _; exact Nat.le_of_eq rfl) (hb hby at_62) (fun _ _ => ⟨rfl, e5, (by decide : 1 + 0 ≤ _), (by decide : 40 + 0 ≤ _)⟩)
  dsimp only [Pt.U, Pt.locs, Pt.cells, Pt.slots] at X6 l6 y6 z6 st6 hQ6
  subst l6 y6 z6
  obtain ⟨rfl, N6q, K6, V6⟩ := hQ6
  have N6 := Fr.app N5 N6q
  have e6 : T6.heap = T6.heap := rfl
  have Z6 : n0 ≤ T6.heap.size := Nat.le_trans Z5 K6.1
  obtain ⟨_, _, ⟨T7, L7, k7, n7⟩, -, X7, ⟨Lc7, hQ7, l7, y7, z7⟩, st7⟩ := Jvm.LawKit.callS X6 hx (y := (⟨"ownclaim/jose/LimbsFromBytesPinLaw", "put", "([BIJ)V"⟩ : MethodName)) hown (mvT hZ (hw _ (List.mem_of_getElem? (i := 1) rfl))) (mvT hZ (hw _ (List.mem_of_getElem? (i := 2) rfl))) (mvT hZ (hw _ (List.mem_of_getElem? (i := 3) rfl))) (mvT hZ (hw _ (List.mem_of_getElem? (i := 4) rfl))) (by decide) (backOf (W := 0) (rm1 l Z a0 hw [] ba (Int32.ofNat o + (24 : Int32)) q4 (o + 24) (own_put (own_put (own_put (own_put (own_put (fun _ => (0 : Int32)) 0 q6) 32 (q6 ^^^ (-1 : Int64))) o q1) (o + 8) q2) (o + 16) q3) T6.heap n0 Z6 gba (own_add o 24) (by omega) V6) hZ (hw _ (List.mem_of_getElem? (i := 4) rfl)) (hw _ (List.mem_of_getElem? (i := 3) rfl)) (by decide) (by decide)) (g := (mkF m 74 #[.val (.long q1), .second, .val (.long q2), .second, .val (.long q3), .second, .val (.long q4), .second, .val (.int p5), .val (.long q6), .second, .val (.int (Int32.ofNat o)), .val (.ref ba), .unset, .unset, .unset, .unset, .unset, .unset, .unset, .unset, .unset, .unset, .unset, .unset, .unset] [(.long q4), (.int ((Int32.ofNat o) + (24 : Int32))), (.ref ba)])) rfl (by rw [hml]; rfl) (argsL := [(.ref ba), (.int (Int32.ofNat o + (24 : Int32))), (.long q4)]) (rest := []) (lenOf pd_0_put rfl) rfl (by show 2 * 0 + _ ≤ _; exact Nat.le_of_eq rfl) (hb hby at_74) (fun _ _ => ⟨rfl, e6, (by decide : 1 + 0 ≤ _), (by decide : 40 + 0 ≤ _)⟩)
  dsimp only [Pt.U, Pt.locs, Pt.cells, Pt.slots] at X7 l7 y7 z7 st7 hQ7
  subst l7 y7 z7
  obtain ⟨rfl, N7q, K7, V7⟩ := hQ7
  have N7 := Fr.app N6 N7q
  have e7 : T7.heap = T7.heap := rfl
  have Z7 : n0 ≤ T7.heap.size := Nat.le_trans Z6 K7.1
  obtain ⟨_, _, ⟨T8, L8, k8, n8⟩, -, X8, ⟨Lc8, hQ8, l8, y8, z8⟩, st8⟩ := Jvm.LawKit.callS X7 hx (y := (⟨"ownclaim/jose/Limbs", "fromBytes", "([BI)[J"⟩ : MethodName)) hown (mvT hZ (hw _ (List.mem_of_getElem? (i := 6) rfl))) (mvT hZ (hw _ (List.mem_of_getElem? (i := 7) rfl))) (mvT hZ (hw _ (List.mem_of_getElem? (i := 8) rfl))) (mvT hZ (hw _ (List.mem_of_getElem? (i := 9) rfl))) (by decide) (backOf (W := 0) (rm2 l Z a0 hw [] ba o (own_put (own_put (own_put (own_put (own_put (own_put (fun _ => (0 : Int32)) 0 q6) 32 (q6 ^^^ (-1 : Int64))) o q1) (o + 8) q2) (o + 16) q3) (o + 24) q4) T7.heap n0 Z7 (by omega) V7) hZ (hw _ (List.mem_of_getElem? (i := 9) rfl)) (hw _ (List.mem_of_getElem? (i := 8) rfl)) (by decide) (by decide)) (g := (mkF m 81 #[.val (.long q1), .second, .val (.long q2), .second, .val (.long q3), .second, .val (.long q4), .second, .val (.int p5), .val (.long q6), .second, .val (.int (Int32.ofNat o)), .val (.ref ba), .unset, .unset, .unset, .unset, .unset, .unset, .unset, .unset, .unset, .unset, .unset, .unset, .unset] [(.int (Int32.ofNat o)), (.ref ba)])) rfl (by rw [hml]; rfl) (argsL := [(.ref ba), (.int (Int32.ofNat o))]) (rest := []) (lenOf pd_0_fb rfl) rfl (by show 2 * 0 + _ ≤ _; exact Nat.le_of_eq rfl) (hb hby at_81) (fun _ _ => ⟨rfl, e7, (by decide : 1 + 1 ≤ _), (by decide : 40 + 5 ≤ _)⟩)
  dsimp only [Pt.U, Pt.locs, Pt.cells, Pt.slots] at X8 l8 y8 z8 st8 hQ8
  subst l8 y8 z8
  obtain ⟨rfl, N8q, K8, V8⟩ := hQ8
  have N8 := Fr.app N7 N8q
  have e8 : T8.heap = T8.heap := rfl
  obtain ⟨la, ga⟩ : ∃ z, z = T7.heap.size := ⟨_, rfl⟩
  rw [← ga] at V8 st8
  obtain ⟨cA, ArA, SA, HA⟩ := V8
  have SA' : cA.slots.size = (5 : Int32).toNatClampNeg := SA
  obtain ⟨fs, hr, hrun, hended, hW, hsame⟩ := X8.leave (v := some (.int (1 : Int32))) (fun h => by rw [Bd.returns] at h; cases h)
  refine ⟨_, _, pre0 _ ?_, hrun, hended, _, _, rfl, ?_, ⟨_, rfl⟩, hW, hsame.mono (by decide) (by decide)⟩
  · refine sg0 q1 q2 q3 q4 p5 q6 X0 hx hZ hw hby hown e0 ?_
    rw [en]
    show Steps p.tables e below (s₁.setTop (mkF m 9 #[.val (.long q1), .second, .val (.long q2), .second, .val (.long q3), .second, .val (.long q4), .second, .val (.int p5), .val (.long q6), .second, .val (.int (Int32.ofNat o)), .unset, .unset, .unset, .unset, .unset, .unset, .unset, .unset, .unset, .unset, .unset, .unset, .unset, .unset] [(.int (40 : Int32))])) _
    refine st1 _ ?_
    show Steps p.tables e below (T1.setTop (mkF m 11 #[.val (.long q1), .second, .val (.long q2), .second, .val (.long q3), .second, .val (.long q4), .second, .val (.int p5), .val (.long q6), .second, .val (.int (Int32.ofNat o)), .unset, .unset, .unset, .unset, .unset, .unset, .unset, .unset, .unset, .unset, .unset, .unset, .unset, .unset] [(.ref ba)])) _
    refine XS.astore X1.here hx rfl (hb hby at_11) rfl rfl (l' := #[.val (.long q1), .second, .val (.long q2), .second, .val (.long q3), .second, .val (.long q4), .second, .val (.int p5), .val (.long q6), .second, .val (.int (Int32.ofNat o)), .val (.ref ba), .unset, .unset, .unset, .unset, .unset, .unset, .unset, .unset, .unset, .unset, .unset, .unset, .unset]) rfl ?_
    show Steps p.tables e below (T1.setTop (mkF m 13 #[.val (.long q1), .second, .val (.long q2), .second, .val (.long q3), .second, .val (.long q4), .second, .val (.int p5), .val (.long q6), .second, .val (.int (Int32.ofNat o)), .val (.ref ba), .unset, .unset, .unset, .unset, .unset, .unset, .unset, .unset, .unset, .unset, .unset, .unset, .unset] [])) _
    refine XS.aload X1.here hx rfl (hb hby at_13) rfl rfl ?_
    show Steps p.tables e below (T1.setTop (mkF m 15 #[.val (.long q1), .second, .val (.long q2), .second, .val (.long q3), .second, .val (.long q4), .second, .val (.int p5), .val (.long q6), .second, .val (.int (Int32.ofNat o)), .val (.ref ba), .unset, .unset, .unset, .unset, .unset, .unset, .unset, .unset, .unset, .unset, .unset, .unset, .unset] [(.ref ba)])) _
    refine XS.iconst X1.here hx rfl (hb hby at_15) ?_
    show Steps p.tables e below (T1.setTop (mkF m 16 #[.val (.long q1), .second, .val (.long q2), .second, .val (.long q3), .second, .val (.long q4), .second, .val (.int p5), .val (.long q6), .second, .val (.int (Int32.ofNat o)), .val (.ref ba), .unset, .unset, .unset, .unset, .unset, .unset, .unset, .unset, .unset, .unset, .unset, .unset, .unset] [(.int (0 : Int32)), (.ref ba)])) _
    refine XS.lload X1.here hx rfl (hb hby at_16) rfl ?_
    show Steps p.tables e below (T1.setTop (mkF m 18 #[.val (.long q1), .second, .val (.long q2), .second, .val (.long q3), .second, .val (.long q4), .second, .val (.int p5), .val (.long q6), .second, .val (.int (Int32.ofNat o)), .val (.ref ba), .unset, .unset, .unset, .unset, .unset, .unset, .unset, .unset, .unset, .unset, .unset, .unset, .unset] [(.long q6), (.int (0 : Int32)), (.ref ba)])) _
    refine st2 _ ?_
    show Steps p.tables e below (T2.setTop (mkF m 21 #[.val (.long q1), .second, .val (.long q2), .second, .val (.long q3), .second, .val (.long q4), .second, .val (.int p5), .val (.long q6), .second, .val (.int (Int32.ofNat o)), .val (.ref ba), .unset, .unset, .unset, .unset, .unset, .unset, .unset, .unset, .unset, .unset, .unset, .unset, .unset] [])) _
    refine XS.aload X2.here hx rfl (hb hby at_21) rfl rfl ?_
    show Steps p.tables e below (T2.setTop (mkF m 23 #[.val (.long q1), .second, .val (.long q2), .second, .val (.long q3), .second, .val (.long q4), .second, .val (.int p5), .val (.long q6), .second, .val (.int (Int32.ofNat o)), .val (.ref ba), .unset, .unset, .unset, .unset, .unset, .unset, .unset, .unset, .unset, .unset, .unset, .unset, .unset] [(.ref ba)])) _
    refine XS.bipush X2.here hx rfl (hb hby at_23) ?_
    show Steps p.tables e below (T2.setTop (mkF m 25 #[.val (.long q1), .second, .val (.long q2), .second, .val (.long q3), .second, .val (.long q4), .second, .val (.int p5), .val (.long q6), .second, .val (.int (Int32.ofNat o)), .val (.ref ba), .unset, .unset, .unset, .unset, .unset, .unset, .unset, .unset, .unset, .unset, .unset, .unset, .unset] [(.int (32 : Int32)), (.ref ba)])) _
    refine XS.lload X2.here hx rfl (hb hby at_25) rfl ?_
    show Steps p.tables e below (T2.setTop (mkF m 27 #[.val (.long q1), .second, .val (.long q2), .second, .val (.long q3), .second, .val (.long q4), .second, .val (.int p5), .val (.long q6), .second, .val (.int (Int32.ofNat o)), .val (.ref ba), .unset, .unset, .unset, .unset, .unset, .unset, .unset, .unset, .unset, .unset, .unset, .unset, .unset] [(.long q6), (.int (32 : Int32)), (.ref ba)])) _
    refine X2.ldc2Long hx hown (mvT hZ (hw _ (List.mem_of_getElem? (i := 5) rfl))) (g := (mkF m 27 #[.val (.long q1), .second, .val (.long q2), .second, .val (.long q3), .second, .val (.long q4), .second, .val (.int p5), .val (.long q6), .second, .val (.int (Int32.ofNat o)), .val (.ref ba), .unset, .unset, .unset, .unset, .unset, .unset, .unset, .unset, .unset, .unset, .unset, .unset, .unset] [(.long q6), (.int (32 : Int32)), (.ref ba)])) rfl (hb hby at_27) _ ?_
    show Steps p.tables e below (T2.setTop (mkF m 30 #[.val (.long q1), .second, .val (.long q2), .second, .val (.long q3), .second, .val (.long q4), .second, .val (.int p5), .val (.long q6), .second, .val (.int (Int32.ofNat o)), .val (.ref ba), .unset, .unset, .unset, .unset, .unset, .unset, .unset, .unset, .unset, .unset, .unset, .unset, .unset] [(.long (-1 : Int64)), (.long q6), (.int (32 : Int32)), (.ref ba)])) _
    refine XS.lxor X2.here hx rfl (hb hby at_30) rfl ?_
    show Steps p.tables e below (T2.setTop (mkF m 31 #[.val (.long q1), .second, .val (.long q2), .second, .val (.long q3), .second, .val (.long q4), .second, .val (.int p5), .val (.long q6), .second, .val (.int (Int32.ofNat o)), .val (.ref ba), .unset, .unset, .unset, .unset, .unset, .unset, .unset, .unset, .unset, .unset, .unset, .unset, .unset] [(.long (q6 ^^^ (-1 : Int64))), (.int (32 : Int32)), (.ref ba)])) _
    refine st3 _ ?_
    show Steps p.tables e below (T3.setTop (mkF m 34 #[.val (.long q1), .second, .val (.long q2), .second, .val (.long q3), .second, .val (.long q4), .second, .val (.int p5), .val (.long q6), .second, .val (.int (Int32.ofNat o)), .val (.ref ba), .unset, .unset, .unset, .unset, .unset, .unset, .unset, .unset, .unset, .unset, .unset, .unset, .unset] [])) _
    refine XS.aload X3.here hx rfl (hb hby at_34) rfl rfl ?_
    show Steps p.tables e below (T3.setTop (mkF m 36 #[.val (.long q1), .second, .val (.long q2), .second, .val (.long q3), .second, .val (.long q4), .second, .val (.int p5), .val (.long q6), .second, .val (.int (Int32.ofNat o)), .val (.ref ba), .unset, .unset, .unset, .unset, .unset, .unset, .unset, .unset, .unset, .unset, .unset, .unset, .unset] [(.ref ba)])) _
    refine XS.iload X3.here hx rfl (hb hby at_36) rfl ?_
    show Steps p.tables e below (T3.setTop (mkF m 38 #[.val (.long q1), .second, .val (.long q2), .second, .val (.long q3), .second, .val (.long q4), .second, .val (.int p5), .val (.long q6), .second, .val (.int (Int32.ofNat o)), .val (.ref ba), .unset, .unset, .unset, .unset, .unset, .unset, .unset, .unset, .unset, .unset, .unset, .unset, .unset] [(.int (Int32.ofNat o)), (.ref ba)])) _
    refine XS.lloadN X3.here hx rfl (hb hby at_38) rfl ?_
    show Steps p.tables e below (T3.setTop (mkF m 39 #[.val (.long q1), .second, .val (.long q2), .second, .val (.long q3), .second, .val (.long q4), .second, .val (.int p5), .val (.long q6), .second, .val (.int (Int32.ofNat o)), .val (.ref ba), .unset, .unset, .unset, .unset, .unset, .unset, .unset, .unset, .unset, .unset, .unset, .unset, .unset] [(.long q1), (.int (Int32.ofNat o)), (.ref ba)])) _
    refine st4 _ ?_
    show Steps p.tables e below (T4.setTop (mkF m 42 #[.val (.long q1), .second, .val (.long q2), .second, .val (.long q3), .second, .val (.long q4), .second, .val (.int p5), .val (.long q6), .second, .val (.int (Int32.ofNat o)), .val (.ref ba), .unset, .unset, .unset, .unset, .unset, .unset, .unset, .unset, .unset, .unset, .unset, .unset, .unset] [])) _
    refine XS.aload X4.here hx rfl (hb hby at_42) rfl rfl ?_
    show Steps p.tables e below (T4.setTop (mkF m 44 #[.val (.long q1), .second, .val (.long q2), .second, .val (.long q3), .second, .val (.long q4), .second, .val (.int p5), .val (.long q6), .second, .val (.int (Int32.ofNat o)), .val (.ref ba), .unset, .unset, .unset, .unset, .unset, .unset, .unset, .unset, .unset, .unset, .unset, .unset, .unset] [(.ref ba)])) _
    refine XS.iload X4.here hx rfl (hb hby at_44) rfl ?_
    show Steps p.tables e below (T4.setTop (mkF m 46 #[.val (.long q1), .second, .val (.long q2), .second, .val (.long q3), .second, .val (.long q4), .second, .val (.int p5), .val (.long q6), .second, .val (.int (Int32.ofNat o)), .val (.ref ba), .unset, .unset, .unset, .unset, .unset, .unset, .unset, .unset, .unset, .unset, .unset, .unset, .unset] [(.int (Int32.ofNat o)), (.ref ba)])) _
    refine XS.bipush X4.here hx rfl (hb hby at_46) ?_
    show Steps p.tables e below (T4.setTop (mkF m 48 #[.val (.long q1), .second, .val (.long q2), .second, .val (.long q3), .second, .val (.long q4), .second, .val (.int p5), .val (.long q6), .second, .val (.int (Int32.ofNat o)), .val (.ref ba), .unset, .unset, .unset, .unset, .unset, .unset, .unset, .unset, .unset, .unset, .unset, .unset, .unset] [(.int (8 : Int32)), (.int (Int32.ofNat o)), (.ref ba)])) _
    refine XS.iadd X4.here hx rfl (hb hby at_48) rfl ?_
    show Steps p.tables e below (T4.setTop (mkF m 49 #[.val (.long q1), .second, .val (.long q2), .second, .val (.long q3), .second, .val (.long q4), .second, .val (.int p5), .val (.long q6), .second, .val (.int (Int32.ofNat o)), .val (.ref ba), .unset, .unset, .unset, .unset, .unset, .unset, .unset, .unset, .unset, .unset, .unset, .unset, .unset] [(.int ((Int32.ofNat o) + (8 : Int32))), (.ref ba)])) _
    refine XS.lloadN X4.here hx rfl (hb hby at_49) rfl ?_
    show Steps p.tables e below (T4.setTop (mkF m 50 #[.val (.long q1), .second, .val (.long q2), .second, .val (.long q3), .second, .val (.long q4), .second, .val (.int p5), .val (.long q6), .second, .val (.int (Int32.ofNat o)), .val (.ref ba), .unset, .unset, .unset, .unset, .unset, .unset, .unset, .unset, .unset, .unset, .unset, .unset, .unset] [(.long q2), (.int ((Int32.ofNat o) + (8 : Int32))), (.ref ba)])) _
    refine st5 _ ?_
    show Steps p.tables e below (T5.setTop (mkF m 53 #[.val (.long q1), .second, .val (.long q2), .second, .val (.long q3), .second, .val (.long q4), .second, .val (.int p5), .val (.long q6), .second, .val (.int (Int32.ofNat o)), .val (.ref ba), .unset, .unset, .unset, .unset, .unset, .unset, .unset, .unset, .unset, .unset, .unset, .unset, .unset] [])) _
    refine XS.aload X5.here hx rfl (hb hby at_53) rfl rfl ?_
    show Steps p.tables e below (T5.setTop (mkF m 55 #[.val (.long q1), .second, .val (.long q2), .second, .val (.long q3), .second, .val (.long q4), .second, .val (.int p5), .val (.long q6), .second, .val (.int (Int32.ofNat o)), .val (.ref ba), .unset, .unset, .unset, .unset, .unset, .unset, .unset, .unset, .unset, .unset, .unset, .unset, .unset] [(.ref ba)])) _
    refine XS.iload X5.here hx rfl (hb hby at_55) rfl ?_
    show Steps p.tables e below (T5.setTop (mkF m 57 #[.val (.long q1), .second, .val (.long q2), .second, .val (.long q3), .second, .val (.long q4), .second, .val (.int p5), .val (.long q6), .second, .val (.int (Int32.ofNat o)), .val (.ref ba), .unset, .unset, .unset, .unset, .unset, .unset, .unset, .unset, .unset, .unset, .unset, .unset, .unset] [(.int (Int32.ofNat o)), (.ref ba)])) _
    refine XS.bipush X5.here hx rfl (hb hby at_57) ?_
    show Steps p.tables e below (T5.setTop (mkF m 59 #[.val (.long q1), .second, .val (.long q2), .second, .val (.long q3), .second, .val (.long q4), .second, .val (.int p5), .val (.long q6), .second, .val (.int (Int32.ofNat o)), .val (.ref ba), .unset, .unset, .unset, .unset, .unset, .unset, .unset, .unset, .unset, .unset, .unset, .unset, .unset] [(.int (16 : Int32)), (.int (Int32.ofNat o)), (.ref ba)])) _
    refine XS.iadd X5.here hx rfl (hb hby at_59) rfl ?_
    show Steps p.tables e below (T5.setTop (mkF m 60 #[.val (.long q1), .second, .val (.long q2), .second, .val (.long q3), .second, .val (.long q4), .second, .val (.int p5), .val (.long q6), .second, .val (.int (Int32.ofNat o)), .val (.ref ba), .unset, .unset, .unset, .unset, .unset, .unset, .unset, .unset, .unset, .unset, .unset, .unset, .unset] [(.int ((Int32.ofNat o) + (16 : Int32))), (.ref ba)])) _
    refine XS.lload X5.here hx rfl (hb hby at_60) rfl ?_
    show Steps p.tables e below (T5.setTop (mkF m 62 #[.val (.long q1), .second, .val (.long q2), .second, .val (.long q3), .second, .val (.long q4), .second, .val (.int p5), .val (.long q6), .second, .val (.int (Int32.ofNat o)), .val (.ref ba), .unset, .unset, .unset, .unset, .unset, .unset, .unset, .unset, .unset, .unset, .unset, .unset, .unset] [(.long q3), (.int ((Int32.ofNat o) + (16 : Int32))), (.ref ba)])) _
    refine st6 _ ?_
    show Steps p.tables e below (T6.setTop (mkF m 65 #[.val (.long q1), .second, .val (.long q2), .second, .val (.long q3), .second, .val (.long q4), .second, .val (.int p5), .val (.long q6), .second, .val (.int (Int32.ofNat o)), .val (.ref ba), .unset, .unset, .unset, .unset, .unset, .unset, .unset, .unset, .unset, .unset, .unset, .unset, .unset] [])) _
    refine XS.aload X6.here hx rfl (hb hby at_65) rfl rfl ?_
    show Steps p.tables e below (T6.setTop (mkF m 67 #[.val (.long q1), .second, .val (.long q2), .second, .val (.long q3), .second, .val (.long q4), .second, .val (.int p5), .val (.long q6), .second, .val (.int (Int32.ofNat o)), .val (.ref ba), .unset, .unset, .unset, .unset, .unset, .unset, .unset, .unset, .unset, .unset, .unset, .unset, .unset] [(.ref ba)])) _
    refine XS.iload X6.here hx rfl (hb hby at_67) rfl ?_
    show Steps p.tables e below (T6.setTop (mkF m 69 #[.val (.long q1), .second, .val (.long q2), .second, .val (.long q3), .second, .val (.long q4), .second, .val (.int p5), .val (.long q6), .second, .val (.int (Int32.ofNat o)), .val (.ref ba), .unset, .unset, .unset, .unset, .unset, .unset, .unset, .unset, .unset, .unset, .unset, .unset, .unset] [(.int (Int32.ofNat o)), (.ref ba)])) _
    refine XS.bipush X6.here hx rfl (hb hby at_69) ?_
    show Steps p.tables e below (T6.setTop (mkF m 71 #[.val (.long q1), .second, .val (.long q2), .second, .val (.long q3), .second, .val (.long q4), .second, .val (.int p5), .val (.long q6), .second, .val (.int (Int32.ofNat o)), .val (.ref ba), .unset, .unset, .unset, .unset, .unset, .unset, .unset, .unset, .unset, .unset, .unset, .unset, .unset] [(.int (24 : Int32)), (.int (Int32.ofNat o)), (.ref ba)])) _
    refine XS.iadd X6.here hx rfl (hb hby at_71) rfl ?_
    show Steps p.tables e below (T6.setTop (mkF m 72 #[.val (.long q1), .second, .val (.long q2), .second, .val (.long q3), .second, .val (.long q4), .second, .val (.int p5), .val (.long q6), .second, .val (.int (Int32.ofNat o)), .val (.ref ba), .unset, .unset, .unset, .unset, .unset, .unset, .unset, .unset, .unset, .unset, .unset, .unset, .unset] [(.int ((Int32.ofNat o) + (24 : Int32))), (.ref ba)])) _
    refine XS.lload X6.here hx rfl (hb hby at_72) rfl ?_
    show Steps p.tables e below (T6.setTop (mkF m 74 #[.val (.long q1), .second, .val (.long q2), .second, .val (.long q3), .second, .val (.long q4), .second, .val (.int p5), .val (.long q6), .second, .val (.int (Int32.ofNat o)), .val (.ref ba), .unset, .unset, .unset, .unset, .unset, .unset, .unset, .unset, .unset, .unset, .unset, .unset, .unset] [(.long q4), (.int ((Int32.ofNat o) + (24 : Int32))), (.ref ba)])) _
    refine st7 _ ?_
    show Steps p.tables e below (T7.setTop (mkF m 77 #[.val (.long q1), .second, .val (.long q2), .second, .val (.long q3), .second, .val (.long q4), .second, .val (.int p5), .val (.long q6), .second, .val (.int (Int32.ofNat o)), .val (.ref ba), .unset, .unset, .unset, .unset, .unset, .unset, .unset, .unset, .unset, .unset, .unset, .unset, .unset] [])) _
    refine XS.aload X7.here hx rfl (hb hby at_77) rfl rfl ?_
    show Steps p.tables e below (T7.setTop (mkF m 79 #[.val (.long q1), .second, .val (.long q2), .second, .val (.long q3), .second, .val (.long q4), .second, .val (.int p5), .val (.long q6), .second, .val (.int (Int32.ofNat o)), .val (.ref ba), .unset, .unset, .unset, .unset, .unset, .unset, .unset, .unset, .unset, .unset, .unset, .unset, .unset] [(.ref ba)])) _
    refine XS.iload X7.here hx rfl (hb hby at_79) rfl ?_
    show Steps p.tables e below (T7.setTop (mkF m 81 #[.val (.long q1), .second, .val (.long q2), .second, .val (.long q3), .second, .val (.long q4), .second, .val (.int p5), .val (.long q6), .second, .val (.int (Int32.ofNat o)), .val (.ref ba), .unset, .unset, .unset, .unset, .unset, .unset, .unset, .unset, .unset, .unset, .unset, .unset, .unset] [(.int (Int32.ofNat o)), (.ref ba)])) _
    refine st8 _ ?_
    refine sgT q1 q2 q3 q4 p5 q6 o ba la (own_v (own_b (own_put (own_put (own_put (own_put (own_put (own_put (fun _ => (0 : Int32)) 0 q6) 32 (q6 ^^^ (-1 : Int64))) o q1) (o + 8) q2) (o + 16) q3) (o + 24) q4) o) 32) cA X8 hx hZ hw hby hown e8 ArA SA SA' HA (own_r0 q1 q2 q3 q4 q6 o) (own_r1 q1 q2 q3 q4 q6 o) (own_r2 q1 q2 q3 q4 q6 o) (own_r3 q1 q2 q3 q4 q6 o) (own_r4 q1 q2 q3 q4 q6 o) ?_
    exact retN X8 hx (t := .boolean) Bd.returns (by simp) (hb hby at_218) hr
  · exact ⟨rfl, N8⟩
set_option maxRecDepth 65536 in
set_option maxHeartbeats 40000000 in
theorem comes_1 {Post : Tables → Env → Array Value → State → Outcome → State → Prop} (hpost : ∀ tb e args s v u, (limb_1_1.after args s (.returned v) u = true ∧ limb_1_2.after args s (.returned v) u = true ∧ True) → FrameEnd s (.returned v) u (Jvm.fieldLocs frame_1_writes args s ++ Jvm.arrayLocs frame_1_arrays args s ++ Jvm.staticLocs frame_1_statics s) 16 192 → Post tb e args s (.returned v) u) :
    ArmFor flags0 classFile x code maxLocals ret World_1 tables_1 room_1 Calls_1 rest_1 Pre_1 Post := by
  intro l hfl _ _ p e ha hc hk s m args below hf hA hF happ hP
  obtain ⟨hcalls, hrest, hpre⟩ := hP
  obtain ⟨-, -, -, hnamed, -, -, -, hat⟩ := (Spec.applies_iff hf).mp happ
  obtain ⟨hg, hn⟩ := and_e (Cond.before_iff.mp (show (Jvm.Cond.and given_1 narrow_1).before args s = true from hpre))
  obtain ⟨g1, g2⟩ := and_e hg
  obtain ⟨k0, g3⟩ := and_e g2
  obtain ⟨k1, g4⟩ := and_e g3
  obtain ⟨k2, g5⟩ := and_e g4
  obtain ⟨k3, g6⟩ := and_e g5
  obtain ⟨k4, k5⟩ := and_e g6
  obtain ⟨w0, w1, w2, w3, w4, w5, rfl⟩ : ∃ w0 w1 w2 w3 w4 w5 : Value, args = #[w0, w1, w2, w3, w4, w5] := by
    have hs : args.size = 6 := by simpa [Cond.value, given_1] using g1
    obtain ⟨L⟩ := args
    match L, hs with
    | [w0, w1, w2, w3, w4, w5], _ => exact ⟨w0, w1, w2, w3, w4, w5, rfl⟩
  have hw := fun d (hd : d ∈ tables_1) => atoms_spec (ws := Jvm.Cond.code x code maxLocals ret :: tables_1) hat d (List.mem_cons_of_mem _ hd)
  obtain ⟨i0, ei0⟩ := isL_v k0
  obtain rfl : w0 = (.long i0) := Option.some.inj ei0
  obtain ⟨i1, ei1⟩ := isL_v k1
  obtain rfl : w1 = (.long i1) := Option.some.inj ei1
  obtain ⟨i2, ei2⟩ := isL_v k2
  obtain rfl : w2 = (.long i2) := Option.some.inj ei2
  obtain ⟨i3, ei3⟩ := isL_v k3
  obtain rfl : w3 = (.long i3) := Option.some.inj ei3
  obtain ⟨i4, ei4⟩ := is_v k4
  obtain rfl : w4 = (.int i4) := Option.some.inj ei4
  obtain ⟨i5, ei5⟩ := isL_v k5
  obtain rfl : w5 = (.long i5) := Option.some.inj ei5
  obtain ⟨n, o, h1, h2, h3, _, L, rfl, ⟨rfl, N⟩, hq⟩ := rm0 l s _ hw tables_1 i0 i1 i2 i3 i4 i5 s.heap s.heap.size (Nat.le_refl _) p e ha hc hk s m _ below hf ((Spec.applies_iff_loose hf).mp happ).1 ⟨rfl, State.Warmed39.refl s, rfl⟩ trivial
  refine ⟨n, _, h1, h2, h3, hpost _ _ _ _ _ _ ⟨Cond.after_iff.mpr rfl, Cond.after_iff.mpr (eq_i res_at (Term.int_eval (1)) rfl), trivial⟩ ⟨hq.1, hq.2.1, (hq.2.2.sift fun y hy => Or.inr (N y hy)).mono (by decide) (by decide)⟩⟩
theorem main_1_1 : Claimed_1_1 := comes_1 fun _ _ _ _ _ _ h hF => ⟨h.1, hF⟩
theorem main_1_2 : Claimed_1_2 := comes_1 fun _ _ _ _ _ _ h hF => ⟨h.2.1, hF⟩
end Jvm.Pilot.@@N@@
namespace Jvm.Pilot.@@N@@
open Jvm Jvm.ClassFile Sem Op Lib Jvm.Free Jvm.Stand Jvm.Pilot.@@N@@.Jvm.D
/-! MADE BY PROGRAM (witnessworld.py) out of the Statement's table words and the real class files: 11 classes; the members and pool entries that the words name. The judged class is class 1, her method 2. -/
namespace start1
open Jvm.ClassFile
def u (s : String) : CpInfo := .utf8 (stringToUtf16 s)
/-- a pool by its gaps: so many unusable entries, then the entry; so many at the end -/
def gap : Nat → List CpInfo → List CpInfo
  | 0, r => r
  | n + 1, r => .unusable :: gap n r
def poolList (es : List (Nat × CpInfo)) (last : Nat) : List CpInfo := es.foldr (fun e r => gap e.1 (e.2 :: r)) (gap last [])
def pool (es : List (Nat × CpInfo)) (last : Nat) : Array CpInfo := ⟨poolList es last⟩
def fileOf (pool : Array CpInfo) (this : Nat) (attrs : Array Attribute := #[]) (ms : Array MethodInfo := #[]) (fl : Nat := 33) (sup : Nat := 0) (ifs : Array Nat := #[]) (fds : Array FieldInfo := #[]) : ClassFile where
  minorVersion := 0
  majorVersion := 65
  constantPool := pool
  accessFlags := fl
  thisClass := this
  superClass := sup
  interfaces := ifs
  fields := fds
  methods := ms
  attributes := attrs
def plain (name : String) (sup : Option ClassId) : Class where
  name := name
  kind := .ordinary
  loader := none
  accessFlags := 33
  super := sup
  interfaces := #[]
  cf := none
  fields := #[]
  methods := #[]
  instanceTypes := #[]
  staticTypes := #[]
  resolved := #[]
  callSites := []
  init := .initialized
  statics := none
  mirror := none

def pool0 : Array CpInfo := pool [(5, u "<init>"), (0, u "()V"), (1, .class_ 10), (1, u "java/lang/Object")] 113

def k0m0 : Method := { name := "<init>", desc := "()V", sig := { parameters := [], returnType := none }, accessFlags := 1, code := none }
/-- java/lang/Object -/
def k0 : Class := { plain "java/lang/Object" none with
  accessFlags := 33
  interfaces := #[]
  cf := some (fileOf pool0 8 #[] #[{ accessFlags := 1, nameIndex := 5, descriptorIndex := 6, attributes := #[] }] 33 0 #[] #[])
  fields := #[]
  methods := #[k0m0]
  instanceTypes := #[]
  staticTypes := #[]
  resolved := Array.replicate 124 none
  statics := none }

def pool1 : Array CpInfo := pool [(2, .class_ 4), (1, u "java/lang/Object"), (0, u "<init>"), (0, u "()V"), (0, .methodref 8 9), (0, .class_ 10), (0, .nameAndType 11 12), (0, u "ownclaim/jose/LimbsFromBytesPinLaw"), (0, u "put"), (0, u "([BIJ)V"), (0, .long 18446744073709551615), (1, .methodref 16 17), (0, .class_ 18), (0, .nameAndType 19 20), (0, u "ownclaim/jose/Limbs"), (0, u "fromBytes"), (0, u "([BI)[J"), (0, .long 4503599627370495), (3, u "law"), (0, u "(JJJJIJ)Z")] 7

def k1m0 : Method := { name := "<init>", desc := "()V", sig := { parameters := [], returnType := none }, accessFlags := 2, code := none }
def k1c1 : Code := { maxStack := 5, maxLocals := 4, code := method_2_code, exceptionTable := #[], attributes := #[] }
def k1m1 : Method := { name := "put", desc := "([BIJ)V", sig := { parameters := [(.array .byte), .int, .long], returnType := none }, accessFlags := 10, code := some k1c1 }
def k1c2 : Code := { maxStack := 6, maxLocals := 26, code := code, exceptionTable := #[], attributes := #[] }
def k1m2 : Method := { name := "law", desc := "(JJJJIJ)Z", sig := { parameters := [.long, .long, .long, .long, .int, .long], returnType := some .boolean }, accessFlags := 9, code := some k1c2 }
/-- ownclaim/jose/LimbsFromBytesPinLaw -/
def k1 : Class := { plain "ownclaim/jose/LimbsFromBytesPinLaw" (some 0) with
  accessFlags := 49
  interfaces := #[]
  cf := some (fileOf pool1 8 #[] #[{ accessFlags := 2, nameIndex := 5, descriptorIndex := 6, attributes := #[] }, { accessFlags := 10, nameIndex := 11, descriptorIndex := 12, attributes := #[] }, { accessFlags := 9, nameIndex := 25, descriptorIndex := 26, attributes := #[] }] 49 2 #[] #[])
  fields := #[]
  methods := #[k1m0, k1m1, k1m2]
  instanceTypes := #[]
  staticTypes := #[]
  resolved := Array.replicate 34 none
  statics := none }

def pool2 : Array CpInfo := pool [(2, .class_ 4), (1, u "java/lang/Object"), (0, u "<init>"), (0, u "()V"), (0, .class_ 8), (0, u "ownclaim/jose/Limbs"), (10, .long 4503599627370495), (1, .long 255), (33, u "COUNT"), (0, u "I"), (2, u "MASK"), (0, u "J"), (5, u "fromBytes"), (0, u "([BI)[J")] 6

def k2m0 : Method := { name := "<init>", desc := "()V", sig := { parameters := [], returnType := none }, accessFlags := 2, code := none }
def k2c1 : Code := { maxStack := 9, maxLocals := 7, code := prog_17_method_3_code, exceptionTable := #[], attributes := #[] }
def k2m1 : Method := { name := "fromBytes", desc := "([BI)[J", sig := { parameters := [(.array .byte), .int], returnType := some (.array .long) }, accessFlags := 8, code := some k2c1 }
/-- ownclaim/jose/Limbs -/
def k2 : Class := { plain "ownclaim/jose/Limbs" (some 0) with
  accessFlags := 48
  interfaces := #[]
  cf := some (fileOf pool2 7 #[] #[{ accessFlags := 2, nameIndex := 5, descriptorIndex := 6, attributes := #[] }, { accessFlags := 8, nameIndex := 66, descriptorIndex := 67, attributes := #[] }] 48 2 #[] #[{ accessFlags := 24, nameIndex := 55, descriptorIndex := 56, attributes := #[] }, { accessFlags := 24, nameIndex := 59, descriptorIndex := 60, attributes := #[] }])
  fields := #[{ name := "COUNT", type := .int, accessFlags := 24, slot := 0, constantValue := 0 }, { name := "MASK", type := .long, accessFlags := 24, slot := 1, constantValue := 0 }]
  methods := #[k2m0, k2m1]
  instanceTypes := #[]
  staticTypes := #[.int, .long]
  resolved := Array.replicate 74 none
  statics := none }

def pool3 : Array CpInfo := pool [(1, u "java/lang/Cloneable"), (0, .class_ 1), (0, u "java/lang/Object"), (0, .class_ 3)] 3

/-- java/lang/Cloneable -/
def k3 : Class := { plain "java/lang/Cloneable" (some 0) with
  accessFlags := 1537
  interfaces := #[]
  cf := some (fileOf pool3 2 #[] #[] 1537 4 #[] #[])
  fields := #[]
  methods := #[]
  instanceTypes := #[]
  staticTypes := #[]
  resolved := Array.replicate 8 none
  statics := none }

def pool4 : Array CpInfo := pool [(1, u "java/io/Serializable"), (0, .class_ 1), (0, u "java/lang/Object"), (0, .class_ 3)] 3

/-- java/io/Serializable -/
def k4 : Class := { plain "java/io/Serializable" (some 0) with
  accessFlags := 1537
  interfaces := #[]
  cf := some (fileOf pool4 2 #[] #[] 1537 4 #[] #[])
  fields := #[]
  methods := #[]
  instanceTypes := #[]
  staticTypes := #[]
  resolved := Array.replicate 8 none
  statics := none }

/-- the primitive byte -/
def k5 : Class := { plain "byte" none with kind := .primitive 'B', accessFlags := 0x411 }
/-- [B -/
def k6 : Class := { plain "[B" (some 0) with kind := .array 5 .byte, interfaces := #[3, 4], accessFlags := 1041 }

/-- the primitive int -/
def k7 : Class := { plain "int" none with kind := .primitive 'I', accessFlags := 0x411 }
/-- [I -/
def k8 : Class := { plain "[I" (some 0) with kind := .array 7 .int, interfaces := #[3, 4], accessFlags := 1041 }

/-- the primitive long -/
def k9 : Class := { plain "long" none with kind := .primitive 'J', accessFlags := 0x411 }
/-- [J -/
def k10 : Class := { plain "[J" (some 0) with kind := .array 9 .long, interfaces := #[3, 4], accessFlags := 1041 }

def heap : Heap := #[]
def classes : Array Class := #[k0, k1, k2, k3, k4, k5, k6, k7, k8, k9, k10]
def interned : List (Array UInt16 × Addr) := []
def slotsUsed : Nat := 0
def theMethod : MethodId := ⟨1, 2⟩
def args0 : Array Value := #[.long 5, .long 6, .long 7, .long 8, .int 3, .long 9]
def aboutOver (below : List Frame) : State where
  vm := { classes := classes, interned := interned.toArray }
  heap := heap
  slotsUsed := slotsUsed
  threads := #[{ frames := .invoking theMethod args0 :: below }]
def below0 : List Frame := [.native { method := ⟨0, 0⟩, args := #[] }]
def about1 : State := aboutOver below0
def p0 : Program := .bare "" "" ""
def e0 : Env := launch0.env 0 0 0
theorem w_frames : about1.frames = Frame.invoking theMethod args0 :: below0 := rfl
set_option maxRecDepth 65536 in
theorem w_args : argsFit about1.vm theMethod args0 = true := by decide +kernel
set_option maxRecDepth 65536 in
theorem w_heap : heapFits about1 = true := by decide +kernel
set_option maxRecDepth 65536 in
theorem w_runnable : about1.curStatus? = some .runnable := by decide +kernel
set_option maxRecDepth 65536 in
theorem w_alone : about1.alone = true := by decide +kernel
set_option maxRecDepth 65536 in
theorem w_named : about1.methodNamed? x = some theMethod := by decide +kernel
set_option maxRecDepth 65536 in
theorem w_hears : about1.hears theMethod below0 = true := by decide +kernel
set_option maxRecDepth 65536 in
theorem w_ripe : about1.ripe theMethod args0 below0 = true := by decide +kernel
theorem w_running : about1.status = .running := rfl
set_option maxRecDepth 65536 in
theorem w_room : about1.hasRoom e0.platform room_1 = true :=
  launch0.hasRoom_least _ room_1 (by decide +kernel) (by decide +kernel) (by decide +kernel) (by decide +kernel) (by decide +kernel) (by decide +kernel)
theorem allAtoms_all (ts : List Jvm.Cond) (a : Array Jvm.Value) (st : Jvm.State) : (allAtoms ts).before a st = ts.all (fun c => c.before a st) := by
  induction ts with
  | nil => rfl
  | cons c t ih =>
    show (Jvm.Cond.and c (allAtoms t)).before a st = _
    rw [Jvm.Cond.before_and, ih, List.all_cons]
def words1 : List Jvm.Cond := Jvm.Cond.code x code maxLocals ret :: tables_1
/-- a 'code' word, met by the world's own term for the bytes: nothing is compared byte by byte -/
theorem code_word {y : MethodName} {bytes : ByteArray} {mx : Nat} {rt : Option FieldType} {a : Array Value} {s : State} {m : MethodId} {meth : Method} {c : Code} (h1 : s.methodNamed? y = some m) (h2 : s.vm.method? m = some meth) (h3 : meth.code = some c) (h4 : c.code = bytes)
    (h5 : (c.maxLocals == mx && c.exceptionTable.isEmpty && decide (c.maxStack ≤ mostOperands) && decide (meth.sig.returnType = rt) && !meth.locks && decide (parseMethodDescriptor y.desc = some meth.sig)) = true) : (Jvm.Cond.code y bytes mx rt).before a s = true := by
  simp only [Bool.and_eq_true, beq_iff_eq, Bool.not_eq_true', decide_eq_true_eq] at h5
  obtain ⟨⟨⟨⟨⟨g1, g2⟩, g3⟩, g4⟩, g5⟩, g6⟩ := h5
  simp [Cond.before, Cond.holds, Cond.value, h1, h2, h3, h4, g1, g2, g3, g4, g5, g6]
def isCode : Jvm.Cond → Bool
  | .code _ _ _ _ => true
  | _ => false
theorem all_split {L : List Jvm.Cond} {P : Jvm.Cond → Bool} (h1 : L.all (fun c => isCode c || P c) = true) (h2 : ∀ c ∈ L.filter isCode, P c = true) : L.all P = true := by
  refine List.all_eq_true.mpr fun c hc => ?_
  have h := List.all_eq_true.mp h1 c hc
  rcases Bool.eq_false_or_eq_true (isCode c) with hi | hi
  · exact h2 c (List.mem_filter.mpr ⟨hc, hi⟩)
  · simpa [hi] using h
set_option maxRecDepth 65536 in
theorem w_c0 : (Jvm.Cond.code x code maxLocals ret).before args0 about1 = true := code_word (m := ⟨1, 2⟩) (meth := k1m2) (c := k1c2) (by decide +kernel) rfl rfl rfl (by decide +kernel)
set_option maxRecDepth 65536 in
theorem w_c1 : (Jvm.Cond.code ({ cls := "ownclaim/jose/LimbsFromBytesPinLaw", name := "put", desc := "([BIJ)V" } : Jvm.MethodName) method_2_code (4 : Nat) (Option.none : Option Jvm.ClassFile.FieldType)).before args0 about1 = true := code_word (m := ⟨1, 1⟩) (meth := k1m1) (c := k1c1) (by decide +kernel) rfl rfl rfl (by decide +kernel)
set_option maxRecDepth 65536 in
theorem w_c2 : (Jvm.Cond.code ({ cls := "ownclaim/jose/Limbs", name := "fromBytes", desc := "([BI)[J" } : Jvm.MethodName) prog_17_method_3_code (7 : Nat) (Option.some (Jvm.ClassFile.FieldType.array Jvm.ClassFile.FieldType.long))).before args0 about1 = true := code_word (m := ⟨2, 1⟩) (meth := k2m1) (c := k2c1) (by decide +kernel) rfl rfl rfl (by decide +kernel)
def codes1 : List Jvm.Cond := [Jvm.Cond.code x code maxLocals ret, Jvm.Cond.code ({ cls := "ownclaim/jose/LimbsFromBytesPinLaw", name := "put", desc := "([BIJ)V" } : Jvm.MethodName) method_2_code (4 : Nat) (Option.none : Option Jvm.ClassFile.FieldType), Jvm.Cond.code ({ cls := "ownclaim/jose/Limbs", name := "fromBytes", desc := "([BI)[J" } : Jvm.MethodName) prog_17_method_3_code (7 : Nat) (Option.some (Jvm.ClassFile.FieldType.array Jvm.ClassFile.FieldType.long))]
set_option maxRecDepth 65536 in
theorem codes_eq : words1.filter isCode = codes1 := rfl
theorem w_codes : ∀ c ∈ words1.filter isCode, c.before args0 about1 = true := by
  rw [codes_eq]
  intro c hc
  simp only [codes1, List.mem_cons, List.not_mem_nil, or_false] at hc
  rcases hc with rfl | rfl | rfl
  · exact w_c0
  · exact w_c1
  · exact w_c2
set_option maxRecDepth 65536 in
theorem w_t1 : words1.all (fun c => isCode c || c.before args0 about1) = true := by decide +kernel
theorem w_tables : (allAtoms (Jvm.Cond.code x code maxLocals ret :: tables_1)).before args0 about1 = true := by
  rw [allAtoms_all]
  show words1.all (fun c => c.before args0 about1) = true
  refine all_split ?_ w_codes
  rw [w_t1]
set_option maxRecDepth 65536 in
theorem w_case : (Jvm.Cond.and given_1 narrow_1).before args0 about1 = true := by decide +kernel
theorem w_applies : (headSpec (Jvm.Cond.code x code maxLocals ret :: tables_1) room_1).applies x e0.platform about1 = true :=
  (Spec.applies_iff w_frames).mpr ⟨w_running, w_runnable, w_alone, w_named, w_hears, w_ripe, w_room, w_tables⟩
theorem atStart : AtStart classFile x code maxLocals ret World_1 tables_1 room_1 Calls_1 rest_1 Pre_1 launch0 p0 e0 about1 theMethod args0 below0 :=
  ⟨lists_1, trivial, launch0.admits_env _ _ _, launch0.least_env, fairChoices_fair.cas, fairChoices_fair.clock, w_frames, w_args, w_heap, w_applies, trivial, trivial, w_case⟩
end start1
theorem witness_1 : WitnessClaimed_1 := ⟨start1.p0, start1.e0, start1.about1, start1.theMethod, start1.args0, start1.below0, start1.atStart⟩
end Jvm.Pilot.@@N@@
