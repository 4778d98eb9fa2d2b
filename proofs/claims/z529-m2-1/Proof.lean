import JvmDerived
import JvmDerived.Pilot.@@N@@Statement
import JvmDerived.Pilot.@@N@@Code
set_option linter.unusedVariables false
set_option linter.unusedSimpArgs false
@@BLOCK:HandJ.lean.txt@@
@@BLOCK:SymMore.lean.txt@@
namespace Jvm.RoadKit
open Sem ClassFile Op Lib Jvm.Stand Jvm.Free Jvm.LawKit
section New
variable {p : Program} {l : Launch} {e : Env} {R : Room} {s : State} {m : MethodId} {args : Array Value} {below : List Frame} {meth : Method} {c : Code} {T : State} {locs : List Loc} {cells slots : Nat}
theorem retI (X : Stand p l e R s m args below meth c T locs cells slots) (hx : p.tables.exec = Jvm.exec) {pc : Nat} {Ls : Array Slot} {z : Int32} {rest : List Value} (hret : meth.sig.returnType = some .int) (hd : decode c.code pc = .ok (.ireturn, 1)) {fs : List Frame}
    (hl : ∀ (f : JFrame) (acts : List Action), f.method = m → f.locked = none → f.entered = [] → (doReturn e (T.setTop f) acts (some (.int z))).1 = T.setFrames fs) : Steps p.tables e below (T.setTop (mkF m pc Ls (.int z :: rest))) (T.setFrames fs) := by
  have hm' : T.vm.method? m = some meth := X.method'
  have hn : narrow .int (.int z) = .int z := rfl
  show Steps p.tables e below (T.setTop { method := m, pc := pc, locals := Ls, stack := _ :: rest, locked := none }) _
  jvm_step X.here [X.here.top, hx, hd, hm', hret, hn]
  first | (intro acts; rw [hl _ acts rfl rfl rfl]) | rw [hl _ _ rfl rfl rfl]
  exact Steps.refl _
end New
end Jvm.RoadKit
namespace Jvm.Pilot.@@N@@
open Jvm Jvm.ClassFile Sem Op Lib Jvm.Free Jvm.Stand Jvm.LawKit Jvm.RoadKit Bundle Jvm.Pilot.@@N@@.Jvm.D
theorem own_mod (x d : Int32) (D : Int) (hd : d.toInt = D) (h : 0 < D) : 0 ≤ ((x &&& (2147483647 : Int32)) % d).toInt ∧ ((x &&& (2147483647 : Int32)) % d).toInt < D := by
  have h1 := (c_and x 2147483647 (by decide)).1
  have h2 := (c_irem (x &&& 2147483647) d D hd).1 h1
  rw [h2]; exact ⟨Int.emod_nonneg _ (by omega), Int.emod_lt_of_pos _ h⟩
theorem own_nat {k : Int32} (h : 0 ≤ k.toInt) : k = Int32.ofNat k.toNatClampNeg := by
  apply Int32.toInt_inj.mp
  have e : (k.toNatClampNeg : Int) = k.toInt := by simp only [Int32.toNatClampNeg]; omega
  have b : k.toInt < 2147483648 := by have := k.toInt_lt; omega
  rw [Int32.toInt_ofNat_of_lt (by omega)]; omega
theorem own_clamp {k : Int32} (h : 0 ≤ k.toInt) {n : Nat} (hn : k.toInt < n) : k.toNatClampNeg < n := by
  simp only [Int32.toNatClampNeg]; omega
theorem own_clamp_of {j : Nat} (h : j < 2147483648) : (Int32.ofNat j).toNatClampNeg = j := by
  have e : (Int32.ofNat j).toInt = j := Int32.toInt_ofNat_of_lt h
  simp only [Int32.toNatClampNeg, e]; omega
theorem own_nei {x k : Int32} {z : Int} (h : ¬ x = k) (hk : k.toInt = z) : x.toInt ≠ z := fun e => h (Int32.toInt_inj.mp (e.trans hk.symm))
theorem own_eqi {x k : Int32} {z : Int} (h : x.toInt = z) (hk : k.toInt = z) : x = k := Int32.toInt_inj.mp (h.trans hk.symm)
theorem own_sta_keep {Z : State} {h h' : Heap} {C n d : String} {v : Value} {ws : List Addr} (F : Sta Z h C n d v) (K : Keep h h' ws) (q : ∀ a ∈ ws, ∃ c : Cell, h[a]? = some c ∧ c.vm.isStatics = false) : Sta Z h' C n d v := by
  obtain ⟨cf, i, k, f, st, cell, h1, h2, h3, h4, h5, h6, h7⟩ := F
  refine ⟨cf, i, k, f, st, cell, h1, h2, h3, h4, K.2.1 st cell h5 (fun hm => ?_), h6, h7⟩
  obtain ⟨c, e1, e2⟩ := q st hm
  cases h5.symm.trans e1
  rw [e2] at h6; cases h6
theorem own_arr_keep {Z : State} {h h' : Heap} {a : Addr} {c : Cell} {ty : FieldType} {ws : List Addr} (A : Arr Z h a c ty) (K : Keep h h' ws) (q : a ∉ ws) : Arr Z h' a c ty := ⟨K.2.1 a c A.1 q, A.2⟩
theorem own_unt_ext {h h' : Heap} {a : Addr} (E : Ext h h') (U : Unt h a) : Unt h' a := by
  obtain ⟨c, h1, r⟩ := U; exact ⟨c, E.2 _ _ h1, r⟩
theorem own_nst {h : Heap} {ws : List Addr} (q : ∀ a ∈ ws, ∃ c : Cell, h[a]? = some c ∧ c.vm.isStatics = false) : ∀ x ∈ ws, ∀ cell : Cell, h[x]? = some cell → cell.vm.isStatics = false := fun x hx cell hc => by
  obtain ⟨c, e1, e2⟩ := q x hx; cases e1.symm.trans hc; exact e2
theorem own_ns {Z : State} {h : Heap} {C : String} {a : Addr} (E : Exa Z h a C) : ∃ c : Cell, h[a]? = some c ∧ c.vm.isStatics = false := by
  obtain ⟨c, k, h1, -, -, h4, -⟩ := E
  exact ⟨c, h1, h4⟩
def QL (n0 : Nat) (v : Option Value) (h : Heap) (L : List Loc) : Prop := v = some (.int (1 : Int32)) ∧ Fr n0 L
def QR (r : Value) (h0 : Heap) (n0 : Nat) (v : Option Value) (h : Heap) (L : List Loc) : Prop := v = some r ∧ Fr n0 L ∧ h = h0
theorem own_fldI {args : Array Value} {s : State} {t : Term} {C n d : String} {a : Addr} {k : Int32} (ht : t.eval args s none [] s = some (.ref a)) (h : (Jvm.Cond.eq (.field t C n d) (.int k)).value args s none s [] = some true) : Fld s s.heap a C n d (.int k) := by
  obtain ⟨u, w, e1, e2, k1, k2⟩ := cmp_v (Or.inl h)
  obtain rfl : w = .int k := (Option.some.inj (e2.symm.trans (Term.int_eval k)))
  obtain ⟨z, rfl⟩ := k2
  have hz : z = k := by simpa [Cond.value, e1, e2] using h
  subst hz
  rw [fld_at ht] at e1
  exact Fld.start e1
theorem own_fldR {args : Array Value} {s : State} {t u : Term} {C n d : String} {a b : Addr} (ht : t.eval args s none [] s = some (.ref a)) (hu : u.eval args s none [] s = some (.ref b)) (h : (Jvm.Cond.eq (.field t C n d) u).value args s none s [] = some true) : Fld s s.heap a C n d (.ref b) := by
  cases e1 : (Term.field t C n d).eval args s none [] s with
  | none => simp [Cond.value, e1] at h
  | some x =>
    have hx : x = .ref b := by
      cases x <;> simp [Cond.value, e1, hu] at h
      exact congrArg Value.ref h
    subst hx
    rw [fld_at ht] at e1
    exact Fld.start e1
/-- an array as a function: her class, length, components -/
def GA (Z : State) (h : Heap) (a : Addr) (k : ClassId) (ty : FieldType) (N : Nat) (vs : Nat → Value) : Prop := ∃ c : Cell, Arr Z h a c ty ∧ c.cls = k ∧ c.slots.size = N ∧ ∀ i, i < N → c.slots[i]? = some (vs i)
theorem GA.lt {Z : State} {h : Heap} {a : Addr} {k : ClassId} {ty : FieldType} {N : Nat} {vs : Nat → Value} (F : GA Z h a k ty N vs) : a < h.size := by obtain ⟨c, A, -⟩ := F; exact A.lt
theorem GA.ext {Z : State} {h h' : Heap} {a : Addr} {k : ClassId} {ty : FieldType} {N : Nat} {vs : Nat → Value} (F : GA Z h a k ty N vs) (E : Ext h h') : GA Z h' a k ty N vs := by obtain ⟨c, A, r⟩ := F; exact ⟨c, A.ext E, r⟩
theorem GA.other {Z : State} {h h' : Heap} {a b : Addr} {k : ClassId} {ty : FieldType} {N sl : Nat} {v : Value} {vs : Nat → Value} (F : GA Z h b k ty N vs) (W : Wr h h' a sl v) (q : b ≠ a) : GA Z h' b k ty N vs := by obtain ⟨c, A, r⟩ := F; exact ⟨c, A.other W q, r⟩
theorem GA.keep {Z : State} {h h' : Heap} {a : Addr} {k : ClassId} {ty : FieldType} {N : Nat} {vs : Nat → Value} {ws : List Addr} (F : GA Z h a k ty N vs) (K : Keep h h' ws) (q : a ∉ ws) : GA Z h' a k ty N vs := by obtain ⟨c, A, r⟩ := F; exact ⟨c, ⟨K.2.1 a c A.1 q, A.2⟩, r⟩
theorem GA.set {Z : State} {h h' : Heap} {a : Addr} {c : Cell} {k : ClassId} {ty : FieldType} {N j : Nat} {v : Value} {vs : Nat → Value} (A : Arr Z h a c ty) (q1 : c.cls = k) (S : c.slots.size = N) (H : ∀ i, i < N → c.slots[i]? = some (vs i)) (W : Wr h h' a j v) : GA Z h' a k ty N (fun i => if i = j then v else vs i) := by
  refine ⟨_, A.same W, q1, by rw [sz_set]; exact S, fun i hi => ?_⟩
  by_cases u : j = i
  · subst u; simp [Cell.setSlot, S, hi]
  · show _ = some (if i = j then v else vs i)
    rw [if_neg (fun q => u q.symm)]
    have := H i hi; simp only [Cell.setSlot]
    rw [Array.getElem?_setIfInBounds_ne u]; exact this
theorem GA.new {Z : State} {h : Heap} {a : Addr} {k : ClassId} {ty : FieldType} {z : Int32} {N : Nat} (A : Arr Z h a (newA k ty z) ty) (hz : z.toNatClampNeg = N) : GA Z h a k ty N (fun _ => defaultValue ty) :=
  ⟨_, A, rfl, by rw [sz_new]; exact hz, fun i hi => by rw [← hz] at hi; simp [newA, hi]⟩
theorem GA.eqv {Z : State} {h : Heap} {a : Addr} {k : ClassId} {ty : FieldType} {N : Nat} {vs ws : Nat → Value} (F : GA Z h a k ty N vs) (q : ∀ i, i < N → vs i = ws i) : GA Z h a k ty N ws := by
  obtain ⟨c, A, r1, r2, r3⟩ := F; exact ⟨c, A, r1, r2, fun i hi => by rw [r3 i hi, q i hi]⟩
theorem own_inb {c : Cell} {N i : Nat} (S : c.slots.size = N) (hi : i < N) (hN : N < 2147483648) : ¬ ((Int32.ofNat i) < 0 ∨ c.slots.size ≤ (Int32.ofNat i).toNatClampNeg) := by
  have e : (Int32.ofNat i).toInt = i := Int32.toInt_ofNat_of_lt (by omega)
  have e0 : (0 : Int32).toInt = 0 := rfl
  simp only [Int32.lt_iff_toInt_lt, Int32.toNatClampNeg, e, e0, S]; omega
theorem own_i32 {i : Nat} (h : i < 2147483648) : (Int32.ofNat i).toInt = i := Int32.toInt_ofNat_of_lt h
theorem own_i64 {i : Nat} (h : i < 9223372036854775808) : (Int64.ofNat i).toInt = i := Int64.toInt_ofNat_of_lt h
theorem own_cl {j : Nat} (h : j < 2147483648) : (Int32.ofNat j).toNatClampNeg = j := by
  simp only [Int32.toNatClampNeg, own_i32 h]; omega
theorem own_len {c : Cell} {N : Nat} (S : c.slots.size = N) : c.slots.size.toInt32 = Int32.ofNat N := by rw [S]
theorem own_ltI {i j : Nat} (hi : i < 2147483648) (hj : j < 2147483648) : (Int32.ofNat i < Int32.ofNat j) ↔ i < j := by
  rw [Int32.lt_iff_toInt_lt, own_i32 hi, own_i32 hj]; omega
theorem own_oneI (i : Nat) : Int32.ofNat i + (1 : Int32) = Int32.ofNat (i + 1) := (Int32.ofNat_add i 1).symm
theorem own_i2l {i : Nat} (h : i < 2147483648) : (Int32.ofNat i).toInt64 = Int64.ofNat i := by
  apply Int64.toInt_inj.mp; rw [Int32.toInt_toInt64, own_i32 h, own_i64 (by omega)]
theorem own_l2i {i : Nat} (h : i < 2147483648) : (Int64.ofNat i).toInt32 = Int32.ofNat i := by
  apply Int32.toInt_inj.mp
  rw [Int64.toInt_toInt32, own_i64 (by omega), own_i32 h]
  exact Int.bmod_eq_of_le (by omega) (by omega)
theorem own_addL {i j : Nat} : Int64.ofNat i + Int64.ofNat j = Int64.ofNat (i + j) := (Int64.ofNat_add i j).symm
theorem own_ush6 {i : Nat} (h : i < 2147483648) : ((Int64.ofNat i).toUInt64 >>> ((6 : Int32) &&& 0x3f).toInt64.toUInt64).toInt64 = Int64.ofNat (i / 64) := by
  apply Int64.toInt_inj.mp
  rw [own_i64 (by omega)]
  have e : ((6 : Int32) &&& 0x3f).toInt64.toUInt64 = 6 := by decide
  rw [e]
  have e2 : (Int64.ofNat i).toUInt64 = UInt64.ofNat i := rfl
  rw [e2]
  have e3 : (UInt64.ofNat i >>> 6) = UInt64.ofNat (i / 64) := by
    apply UInt64.toNat_inj.mp
    rw [UInt64.toNat_shiftRight]
    simp [UInt64.toNat_ofNat', Nat.shiftRight_eq_div_pow]
    omega
  rw [e3]
  show (Int64.ofNat (i / 64)).toInt = _
  rw [own_i64 (by omega)]
theorem own_words {i : Nat} (h : i < 2147483000) : ((Int64.ofNat i + (64 : Int64) - (1 : Int64)).toUInt64 >>> ((6 : Int32) &&& 0x3f).toInt64.toUInt64).toInt64 = Int64.ofNat ((i + 63) / 64) := by
  have e : Int64.ofNat i + (64 : Int64) - (1 : Int64) = Int64.ofNat (i + 63) := by
    apply Int64.toInt_inj.mp
    rw [Int64.toInt_sub, Int64.toInt_add, own_i64 (by omega), own_i64 (by omega)]
    have a1 : (64 : Int64).toInt = 64 := rfl
    have a2 : (1 : Int64).toInt = 1 := rfl
    rw [a1, a2, Int.bmod_eq_of_le (n := (i : Int) + 64) (by omega) (by omega), Int.bmod_eq_of_le (by omega) (by omega)]; omega
  rw [e, own_ush6 (by omega)]
theorem own_shl6 {i : Nat} (h : i < 2147483648) : (Int64.ofNat i <<< ((6 : Int32) &&& 0x3f).toInt64) = Int64.ofNat (64 * i) := by
  have e : ((6 : Int32) &&& 0x3f).toInt64 = 6 := by decide
  rw [e]
  apply Int64.toBitVec_inj.mp
  apply BitVec.eq_of_toNat_eq
  show ((BitVec.ofNat 64 i) <<< (6 : Nat)).toNat = _
  rw [BitVec.toNat_shiftLeft]
  show (i % 2 ^ 64) <<< 6 % 2 ^ 64 = (64 * i) % 2 ^ 64
  rw [Nat.shiftLeft_eq]; omega
theorem own_cnt {v : Nat} (h : v < 2147483648) : (Int32.ofNat v &&& 0x3f) = Int32.ofNat (v % 64) := by
  apply Int32.toInt_inj.mp
  rw [own_i32 (by omega)]
  have := c_and (Int32.ofNat v) 63 (by decide)
  have e : (Int32.ofNat v &&& (63 : Int32)).toInt = v % 64 := by
    show ((Int32.ofNat v) &&& 63).toBitVec.toInt = _
    rw [Int32.toBitVec_and]
    have : ((Int32.ofNat v).toBitVec &&& (63 : Int32).toBitVec).toNat = v % 64 := by
      rw [BitVec.toNat_and]
      show (v % 2 ^ 32) &&& 63 = _
      rw [show (63 : Nat) = 2 ^ 6 - 1 from rfl, Nat.and_two_pow_sub_one_eq_mod]; omega
    rw [BitVec.toInt_eq_toNat_of_lt (by omega), this]; omega
  exact e
def bit (w : Int64) (b : Nat) : Prop := w.toBitVec.getLsbD b = true
theorem own_one_all : ∀ t b : Fin 64, ((1 : Int64) <<< (Int32.ofNat t.1).toInt64).toBitVec.getLsbD b.1 = decide (b.1 = t.1) := by decide +kernel
theorem own_ones_all : ∀ t b : Fin 64, ((-1 : Int64) <<< (Int32.ofNat t.1).toInt64).toBitVec.getLsbD b.1 = decide (t.1 ≤ b.1) := by decide +kernel
theorem own_nots_all : ∀ t b : Fin 64, (((1 : Int64) <<< (Int32.ofNat t.1).toInt64) ^^^ (-1 : Int64)).toBitVec.getLsbD b.1 = decide (b.1 ≠ t.1) := by decide +kernel
theorem own_bit_one {v b : Nat} (h : v < 2147483648) (hb : b < 64) : bit ((1 : Int64) <<< (Int32.ofNat v &&& 0x3f).toInt64) b ↔ b = v % 64 := by
  rw [own_cnt h]; unfold bit; rw [own_one_all ⟨v % 64, by omega⟩ ⟨b, hb⟩]; simp
theorem own_bit_ones {v b : Nat} (h : v < 2147483648) (hb : b < 64) : bit ((-1 : Int64) <<< (Int32.ofNat v &&& 0x3f).toInt64) b ↔ v % 64 ≤ b := by
  rw [own_cnt h]; unfold bit; rw [own_ones_all ⟨v % 64, by omega⟩ ⟨b, hb⟩]; simp
theorem own_bit_nots {v b : Nat} (h : v < 2147483648) (hb : b < 64) : bit (((1 : Int64) <<< (Int32.ofNat v &&& 0x3f).toInt64) ^^^ (-1 : Int64)) b ↔ b ≠ v % 64 := by
  rw [own_cnt h]; unfold bit; rw [own_nots_all ⟨v % 64, by omega⟩ ⟨b, hb⟩]; simp
theorem own_bit_or (x y : Int64) (b : Nat) : bit (x ||| y) b ↔ bit x b ∨ bit y b := by unfold bit; rw [Int64.toBitVec_or, BitVec.getLsbD_or]; simp
theorem own_bit_and (x y : Int64) (b : Nat) : bit (x &&& y) b ↔ bit x b ∧ bit y b := by unfold bit; rw [Int64.toBitVec_and, BitVec.getLsbD_and]; simp
theorem own_bit_zero (w : Int64) : w = 0 ↔ ∀ b, b < 64 → ¬ bit w b := by
  constructor
  · rintro rfl b hb; unfold bit; simp
  · intro h; apply Int64.toBitVec_inj.mp; apply BitVec.eq_of_getLsbD_eq; intro i hi
    have := h i hi; unfold bit at this; simp at this ⊢; exact this
theorem own_ntz {w : Int64} (h : w ≠ 0) : ∃ t, t < 64 ∧ bit w t ∧ Jvm.Free.JP.Long_numberOfTrailingZeros_J.val w = Int32.ofNat t := by
  have hn : w.toBitVec.toNat ≠ 0 := fun e => h (Int64.toBitVec_inj.mp (BitVec.eq_of_toNat_eq e))
  obtain ⟨t, ht⟩ := Jvm.Free.JM.low_ex _ hn
  exact ⟨t, ht.lt w.toBitVec.isLt, ht.at, Jvm.Free.JM.ntz64 ht⟩
theorem own_lc0 (x y : Int64) : lcmpW x y = 0 ↔ x = y := by rw [lcW]; exact lc_eq x y
def Shp (sz D : Nat) (N : Nat → Nat) : Prop := (1 ≤ D) ∧ (D ≤ 4) ∧ (N (D - 1) = 1) ∧ (sz ≤ 64 * N 0) ∧ (∀ l, l + 1 < D → N l ≤ 64 * N (l + 1)) ∧ (∀ l, l < D → N l ≤ 16384) ∧ (∀ l, l < D → 1 ≤ N l) ∧ (sz ≤ 1048575)
theorem Shp.d1 {sz D : Nat} {N : Nat → Nat} (R : Shp sz D N) : 1 ≤ D := R.1
theorem Shp.d4 {sz D : Nat} {N : Nat → Nat} (R : Shp sz D N) : D ≤ 4 := R.2.1
theorem Shp.top {sz D : Nat} {N : Nat → Nat} (R : Shp sz D N) : N (D - 1) = 1 := R.2.2.1
theorem Shp.c0 {sz D : Nat} {N : Nat → Nat} (R : Shp sz D N) : sz ≤ 64 * N 0 := R.2.2.2.1
theorem Shp.up {sz D : Nat} {N : Nat → Nat} (R : Shp sz D N) : ∀ l, l + 1 < D → N l ≤ 64 * N (l + 1) := R.2.2.2.2.1
theorem Shp.big {sz D : Nat} {N : Nat → Nat} (R : Shp sz D N) : ∀ l, l < D → N l ≤ 16384 := R.2.2.2.2.2.1
theorem Shp.pos {sz D : Nat} {N : Nat → Nat} (R : Shp sz D N) : ∀ l, l < D → 1 ≤ N l := R.2.2.2.2.2.2.1
theorem Shp.s20 {sz D : Nat} {N : Nat → Nat} (R : Shp sz D N) : sz ≤ 1048575 := R.2.2.2.2.2.2.2
def Lv (M : Nat → Prop) (l v : Nat) : Prop := ∃ e, M e ∧ e / 64 ^ l = v
def Bt (D : Nat) (N : Nat → Nat) (f : Nat → Nat → Int64) (A : Nat → Nat → Prop) : Prop := ∀ l, l < D → ∀ k, k < N l → ∀ b, b < 64 → (bit (f l k) b ↔ A l (64 * k + b))
def Ad (M : Nat → Prop) (i : Nat) : Nat → Prop := fun e => M e ∨ e = i
def Rm (M : Nat → Prop) (i : Nat) : Nat → Prop := fun e => M e ∧ e ≠ i
def up2 (f : Nat → Nat → Int64) (l k : Nat) (w : Int64) : Nat → Nat → Int64 := fun j i => if j = l then (if i = k then w else f j i) else f j i
theorem own_pw (e l : Nat) : e / 64 ^ (l + 1) = e / 64 ^ l / 64 := by rw [Nat.pow_succ, Nat.div_div_eq_div_mul]
theorem own_rng {sz D : Nat} {N : Nat → Nat} (S : Shp sz D N) {e : Nat} (he : e < sz) : ∀ l, l < D → e / 64 ^ l < 64 * N l
  | 0, _ => by have := S.c0; simp; omega
  | l + 1, h => by
    have := own_rng S he l (by omega)
    have := S.up l h
    rw [own_pw]; omega
theorem own_rngw {sz D : Nat} {N : Nat → Nat} (S : Shp sz D N) {e : Nat} (he : e < sz) (l : Nat) (hl : l < D) : e / 64 ^ (l + 1) < N l := by
  have := own_rng S he l hl; rw [own_pw]; omega
theorem own_le (e l : Nat) : e / 64 ^ l ≤ e := Nat.div_le_self _ _
theorem own_lift {e i l : Nat} (h : e / 64 ^ l = i / 64 ^ l) : ∀ d, e / 64 ^ (l + d) = i / 64 ^ (l + d)
  | 0 => h
  | d + 1 => by rw [show l + (d + 1) = (l + d) + 1 from rfl, own_pw, own_pw, own_lift h d]
theorem own_lift' {e i l j : Nat} (h : e / 64 ^ l = i / 64 ^ l) (hj : l ≤ j) : e / 64 ^ j = i / 64 ^ j := by
  have := own_lift h (j - l); rwa [show l + (j - l) = j from by omega] at this
theorem own_lvA (M : Nat → Prop) (i l v : Nat) : Lv (Ad M i) l v ↔ Lv M l v ∨ v = i / 64 ^ l := by
  constructor
  · rintro ⟨e, h | h, q⟩
    · exact Or.inl ⟨e, h, q⟩
    · subst h; exact Or.inr q.symm
  · rintro (⟨e, h, q⟩ | h)
    · exact ⟨e, Or.inl h, q⟩
    · exact ⟨i, Or.inr rfl, h.symm⟩
def Mix (l : Nat) (M M' : Nat → Prop) : Nat → Nat → Prop := fun j => if j < l then Lv M' j else Lv M j
theorem own_add_step {sz D : Nat} {N : Nat → Nat} {f : Nat → Nat → Int64} {M : Nat → Prop} {i l : Nat} {w : Int64} (S : Shp sz D N) (B : Bt D N f (Mix l M (Ad M i))) (hl : l < D) (hi : i < sz)
    (hw : ∀ b, b < 64 → (bit w b ↔ bit (f l (i / 64 ^ (l + 1))) b ∨ b = i / 64 ^ l % 64)) : Bt D N (up2 f l (i / 64 ^ (l + 1)) w) (Mix (l + 1) M (Ad M i)) := by
  intro j hj k hk b hb
  have hB := B j hj k hk b hb
  by_cases ej : j = l
  · subst ej
    have e1 : Mix j M (Ad M i) j = Lv M j := by simp [Mix]
    have e2 : Mix (j + 1) M (Ad M i) j = Lv (Ad M i) j := by simp [Mix]
    rw [e1] at hB
    rw [e2, own_lvA]
    by_cases ek : k = i / 64 ^ (j + 1)
    · subst ek
      simp only [up2, if_true]
      rw [hw b hb, hB, own_pw]
      constructor
      · rintro (h | h)
        · exact Or.inl h
        · right; omega
      · rintro (h | h)
        · exact Or.inl h
        · right; omega
    · simp only [up2, if_true, if_neg ek]
      rw [hB]
      constructor
      · exact Or.inl
      · rintro (h | h)
        · exact h
        · exfalso; apply ek; rw [own_pw]; omega
  · have e2 : Mix (l + 1) M (Ad M i) j = Mix l M (Ad M i) j := by
      simp only [Mix]; by_cases q : j < l
      · rw [if_pos q, if_pos (by omega)]
      · rw [if_neg q, if_neg (by omega)]
    simp only [up2, if_neg ej]
    rw [e2]; exact hB
theorem own_add_ret {sz D : Nat} {N : Nat → Nat} {f f' : Nat → Nat → Int64} {M : Nat → Prop} {i l : Nat} (S : Shp sz D N) (B : Bt D N f (Mix l M (Ad M i))) (hl : l < D) (hi : i < sz) (hnz : f l (i / 64 ^ (l + 1)) ≠ 0) (B' : Bt D N f' (Mix (l + 1) M (Ad M i))) : Bt D N f' (Lv (Ad M i)) := by
  have : ∃ b, b < 64 ∧ bit (f l (i / 64 ^ (l + 1))) b := by
    refine Classical.byContradiction fun q => hnz ((own_bit_zero _).mpr fun b hb hh => q ⟨b, hb, hh⟩)
  obtain ⟨b, hb, hh⟩ := this
  have h1 := (B l hl _ (own_rngw S hi l hl) b hb).mp hh
  simp only [Mix, Nat.lt_irrefl, if_false] at h1
  obtain ⟨e, he, q⟩ := h1
  have q2 : e / 64 ^ (l + 1) = i / 64 ^ (l + 1) := by rw [own_pw e, q]; omega
  intro j hj k hk c hc
  rw [B' j hj k hk c hc]
  simp only [Mix]
  by_cases u : j < l + 1
  · rw [if_pos u]
  · rw [if_neg u, own_lvA]
    constructor
    · exact Or.inl
    · rintro (h | h)
      · exact h
      · exact ⟨e, he, by rw [h]; exact own_lift' q2 (by omega)⟩
theorem own_mix_all {D l : Nat} {N : Nat → Nat} {f : Nat → Nat → Int64} {M M' : Nat → Prop} (B : Bt D N f (Mix l M M')) (h : D ≤ l) : Bt D N f (Lv M') := fun j hj k hk b hb => by
  have := B j hj k hk b hb
  simp only [Mix] at this; rwa [if_pos (by omega)] at this
theorem own_mix_0 {D : Nat} {N : Nat → Nat} {f : Nat → Nat → Int64} {M M' : Nat → Prop} (B : Bt D N f (Lv M)) : Bt D N f (Mix 0 M M') := fun j hj k hk b hb => by
  have := B j hj k hk b hb
  simpa [Mix] using this
def Solo (M : Nat → Prop) (i l : Nat) : Prop := ∀ e, Rm M i e → e / 64 ^ l ≠ i / 64 ^ l
theorem own_solo0 (M : Nat → Prop) (i : Nat) : Solo M i 0 := fun e h q => h.2 (by simpa using q)
theorem own_lvR {M : Nat → Prop} {i l v : Nat} (hs : Solo M i l) (hM : M i) : Lv (Rm M i) l v ↔ Lv M l v ∧ v ≠ i / 64 ^ l := by
  constructor
  · rintro ⟨e, h, q⟩
    exact ⟨⟨e, h.1, q⟩, fun z => hs e h (q.trans z)⟩
  · rintro ⟨⟨e, h, q⟩, z⟩
    exact ⟨e, ⟨h, fun y => z (by rw [← q, y])⟩, q⟩
theorem own_rem_step {sz D : Nat} {N : Nat → Nat} {f : Nat → Nat → Int64} {M : Nat → Prop} {i l : Nat} {w : Int64} (S : Shp sz D N) (B : Bt D N f (Mix l M (Rm M i))) (hs : Solo M i l) (hM : M i) (hl : l < D) (hi : i < sz)
    (hw : ∀ b, b < 64 → (bit w b ↔ bit (f l (i / 64 ^ (l + 1))) b ∧ b ≠ i / 64 ^ l % 64)) : Bt D N (up2 f l (i / 64 ^ (l + 1)) w) (Mix (l + 1) M (Rm M i)) := by
  intro j hj k hk b hb
  have hB := B j hj k hk b hb
  by_cases ej : j = l
  · subst ej
    have e1 : Mix j M (Rm M i) j = Lv M j := by simp [Mix]
    have e2 : Mix (j + 1) M (Rm M i) j = Lv (Rm M i) j := by simp [Mix]
    rw [e1] at hB
    rw [e2, own_lvR hs hM]
    by_cases ek : k = i / 64 ^ (j + 1)
    · subst ek
      simp only [up2, if_true]
      rw [hw b hb, hB, own_pw]
      constructor
      · rintro ⟨h, q⟩; exact ⟨h, by omega⟩
      · rintro ⟨h, q⟩; exact ⟨h, by omega⟩
    · simp only [up2, if_true, if_neg ek]
      rw [hB]
      constructor
      · intro h; refine ⟨h, fun q => ek ?_⟩; rw [own_pw]; omega
      · exact fun h => h.1
  · have e2 : Mix (l + 1) M (Rm M i) j = Mix l M (Rm M i) j := by
      simp only [Mix]; by_cases q : j < l
      · rw [if_pos q, if_pos (by omega)]
      · rw [if_neg q, if_neg (by omega)]
    simp only [up2, if_neg ej]
    rw [e2]; exact hB
theorem own_up2 (f : Nat → Nat → Int64) (l k : Nat) (w : Int64) : up2 f l k w l k = w := by simp [up2]
theorem own_rem_solo {sz D : Nat} {N : Nat → Nat} {f' : Nat → Nat → Int64} {M : Nat → Prop} {i l : Nat} (S : Shp sz D N) (hsz : ∀ e, M e → e < sz) (B' : Bt D N f' (Mix (l + 1) M (Rm M i))) (hl : l < D) (hi : i < sz) (hz : f' l (i / 64 ^ (l + 1)) = 0) : Solo M i (l + 1) := by
  intro e he q
  have h2 := (B' l hl (i / 64 ^ (l + 1)) (own_rngw S hi l hl) (e / 64 ^ l % 64) (Nat.mod_lt _ (by decide))).mpr (by
    simp only [Mix]; rw [if_pos (by omega)]
    refine ⟨e, he, ?_⟩
    rw [← q, own_pw]; omega)
  exact (own_bit_zero _).mp hz _ (Nat.mod_lt _ (by decide)) h2
theorem own_rem_ret {sz D : Nat} {N : Nat → Nat} {f' : Nat → Nat → Int64} {M : Nat → Prop} {i l : Nat} (S : Shp sz D N) (B' : Bt D N f' (Mix (l + 1) M (Rm M i))) (hl : l < D) (hi : i < sz) (hnz : f' l (i / 64 ^ (l + 1)) ≠ 0) : Bt D N f' (Lv (Rm M i)) := by
  have : ∃ b, b < 64 ∧ bit (f' l (i / 64 ^ (l + 1))) b := by
    refine Classical.byContradiction fun q => hnz ((own_bit_zero _).mpr fun b hb hh => q ⟨b, hb, hh⟩)
  obtain ⟨b, hb, hh⟩ := this
  have h1 := (B' l hl _ (own_rngw S hi l hl) b hb).mp hh
  simp only [Mix] at h1; rw [if_pos (by omega)] at h1
  obtain ⟨e, he, q⟩ := h1
  have q2 : e / 64 ^ (l + 1) = i / 64 ^ (l + 1) := by rw [own_pw e, q]; omega
  intro j hj k hk c hc
  rw [B' j hj k hk c hc]
  simp only [Mix]
  by_cases u : j < l + 1
  · rw [if_pos u]
  · rw [if_neg u]
    constructor
    · rintro ⟨x, hx, z⟩
      by_cases y : x = i
      · subst y; exact ⟨e, he, (own_lift' q2 (by omega)).trans z⟩
      · exact ⟨x, ⟨hx, y⟩, z⟩
    · rintro ⟨x, hx, z⟩; exact ⟨x, hx.1, z⟩
/-- the road up of next: every member from 'from' on lies at v or beyond -/
def Up (M : Nat → Prop) (frm l v : Nat) : Prop := ∀ e, M e → frm ≤ e → v ≤ e / 64 ^ l
theorem own_up0 (M : Nat → Prop) (frm : Nat) : Up M frm 0 frm := fun e _ h => by simpa using h
theorem own_up_step {sz D : Nat} {N : Nat → Nat} {f : Nat → Nat → Int64} {M : Nat → Prop} {frm l v : Nat} (S : Shp sz D N) (hsz : ∀ e, M e → e < sz) (B : Bt D N f (Lv M)) (hl : l < D) (U : Up M frm l v) (hz : v / 64 < N l → ∀ b, b < 64 → v % 64 ≤ b → ¬ bit (f l (v / 64)) b) : Up M frm (l + 1) (v / 64 + 1) := by
  intro e he hf
  have h1 := U e he hf
  have h2 := own_rng S (hsz e he) l hl
  rw [own_pw]
  refine Classical.byContradiction fun q => ?_
  have h3 : e / 64 ^ l / 64 = v / 64 := by omega
  have h4 := (B l hl (v / 64) (by omega) (e / 64 ^ l % 64) (Nat.mod_lt _ (by decide))).mpr ⟨e, he, by omega⟩
  exact hz (by omega) _ (Nat.mod_lt _ (by decide)) (by omega) h4
theorem own_up_end {sz D : Nat} {N : Nat → Nat} {M : Nat → Prop} {frm v : Nat} (S : Shp sz D N) (hsz : ∀ e, M e → e < sz) (U : Up M frm D (v + 1)) : ∀ e, M e → e < frm := by
  intro e he
  refine Classical.byContradiction fun q => ?_
  have h1 := U e he (by omega)
  have h2 := own_rng S (hsz e he) (D - 1) (by have := S.d1; omega)
  rw [S.top] at h2
  have h3 : e / 64 ^ D = e / 64 ^ (D - 1) / 64 := by rw [← own_pw, show D - 1 + 1 = D from by have := S.d1; omega]
  omega
theorem own_down {sz D : Nat} {N : Nat → Nat} {f : Nat → Nat → Int64} {M : Nat → Prop} {l v : Nat} (S : Shp sz D N) (hsz : ∀ e, M e → e < sz) (B : Bt D N f (Lv M)) (hl : l < D) (h : Lv M (l + 1) v) : v < N l ∧ f l v ≠ 0 := by
  obtain ⟨e, he, q⟩ := h
  have h1 := own_rngw S (hsz e he) l hl
  rw [q] at h1
  refine ⟨h1, fun z => (own_bit_zero _).mp z (e / 64 ^ l % 64) (Nat.mod_lt _ (by decide)) ((B l hl v h1 _ (Nat.mod_lt _ (by decide))).mpr ⟨e, he, ?_⟩)⟩
  rw [← q, own_pw]; omega
theorem own_emp {sz D : Nat} {N : Nat → Nat} {f : Nat → Nat → Int64} {M : Nat → Prop} (S : Shp sz D N) (hsz : ∀ e, M e → e < sz) (B : Bt D N f (Lv M)) : f (D - 1) 0 = 0 ↔ ∀ e, ¬ M e := by
  have d1 := S.d1
  constructor
  · intro z e he
    have h2 := own_rng S (hsz e he) (D - 1) (by omega)
    rw [S.top] at h2
    exact (own_bit_zero _).mp z (e / 64 ^ (D - 1)) (by omega) ((B (D - 1) (by omega) 0 (by rw [S.top]; omega) _ (by omega)).mpr ⟨e, he, by omega⟩)
  · intro h
    refine (own_bit_zero _).mpr fun b hb hh => ?_
    obtain ⟨e, he, -⟩ := (B (D - 1) (by omega) 0 (by rw [S.top]; omega) b hb).mp hh
    exact h e he
def Cnt (M : Nat → Prop) : Nat → Prop
  | 0 => ∀ e, ¬ M e
  | 1 => ∃ a, ∀ e, M e ↔ e = a
  | 2 => ∃ a b, a ≠ b ∧ ∀ e, M e ↔ e = a ∨ e = b
  | _ => False
theorem Cnt.some {M : Nat → Prop} {c : Nat} (h : Cnt M (c + 1)) : ∃ e, M e := by
  match c, h with
  | 0, h => obtain ⟨a, h⟩ := h; exact ⟨a, (h a).mpr rfl⟩
  | 1, h => obtain ⟨a, b, -, h⟩ := h; exact ⟨a, (h a).mpr (Or.inl rfl)⟩
theorem Cnt.rm {M : Nat → Prop} {c r : Nat} (h : Cnt M (c + 1)) (hr : M r) : Cnt (Rm M r) c := by
  match c, h with
  | 0, h =>
    obtain ⟨a, h⟩ := h
    intro e q; exact q.2 (((h e).mp q.1).trans ((h r).mp hr).symm)
  | 1, h =>
    obtain ⟨a, b, hab, h⟩ := h
    rcases (h r).mp hr with q | q
    · subst q; refine ⟨b, fun e => ⟨fun z => ((h e).mp z.1).resolve_left z.2, fun z => ⟨(h e).mpr (Or.inr z), fun y => hab (y.symm.trans z)⟩⟩⟩
    · subst q; refine ⟨a, fun e => ⟨fun z => ((h e).mp z.1).resolve_right z.2, fun z => ⟨(h e).mpr (Or.inl z), fun y => hab (z.symm.trans y)⟩⟩⟩
theorem Cnt.add0 {M : Nat → Prop} (h : Cnt M 0) (i : Nat) : Cnt (Ad M i) 1 := ⟨i, fun e => ⟨fun q => q.resolve_left (h e), Or.inr⟩⟩
theorem Cnt.same (i : Nat) : Cnt (Ad (Ad (fun _ => False) i) i) 1 := ⟨i, fun e => ⟨fun q => q.elim (fun z => z.resolve_left id) id, Or.inr⟩⟩
theorem Cnt.two {i j : Nat} (h : j ≠ i) : Cnt (Ad (Ad (fun _ => False) i) j) 2 := ⟨i, j, fun q => h q.symm, fun e => ⟨fun q => q.elim (fun z => Or.inl (z.resolve_left id)) Or.inr, fun q => q.elim (fun z => Or.inl (Or.inr z)) Or.inr⟩⟩
def RS (Z : State) (h : Heap) (n0 : Nat) (S LV : Addr) (kV : ClassId) (D : Nat) (xs : Nat → Addr) (ks : Nat → ClassId) (N : Nat → Nat) (f : Nat → Nat → Int64) (sz : Int32) (af : Int64) : Prop := (Exa Z h S "com/example/halfword/halfword/verify/RoundRobinSet") ∧ (Fld Z h S "com/example/halfword/halfword/verify/RoundRobinSet" "levels" "[[J" (.ref LV)) ∧ (Fld Z h S "com/example/halfword/halfword/verify/RoundRobinSet" "size" "I" (.int sz)) ∧ (Fld Z h S "com/example/halfword/halfword/verify/RoundRobinSet" "after" "J" (.long af)) ∧ (GA Z h LV kV (.array .long) D (fun l => .ref (xs l))) ∧ (∀ l, l < D → GA Z h (xs l) (ks l) .long (N l) (fun k => .long (f l k))) ∧ (n0 ≤ S) ∧ (∀ l, l < D → n0 ≤ xs l) ∧ (∀ l, l < D → xs l ≠ S) ∧ (∀ l, l < D → xs l ≠ LV) ∧ (∀ l j, l < D → j < D → l ≠ j → xs l ≠ xs j) ∧ (LV ≠ S)
theorem RS.ex {Z : State} {h : Heap} {n0 : Nat} {S LV : Addr} {kV : ClassId} {D : Nat} {xs : Nat → Addr} {ks : Nat → ClassId} {N : Nat → Nat} {f : Nat → Nat → Int64} {sz : Int32} {af : Int64} (R : RS Z h n0 S LV kV D xs ks N f sz af) : Exa Z h S "com/example/halfword/halfword/verify/RoundRobinSet" := R.1
theorem RS.fl {Z : State} {h : Heap} {n0 : Nat} {S LV : Addr} {kV : ClassId} {D : Nat} {xs : Nat → Addr} {ks : Nat → ClassId} {N : Nat → Nat} {f : Nat → Nat → Int64} {sz : Int32} {af : Int64} (R : RS Z h n0 S LV kV D xs ks N f sz af) : Fld Z h S "com/example/halfword/halfword/verify/RoundRobinSet" "levels" "[[J" (.ref LV) := R.2.1
theorem RS.fs {Z : State} {h : Heap} {n0 : Nat} {S LV : Addr} {kV : ClassId} {D : Nat} {xs : Nat → Addr} {ks : Nat → ClassId} {N : Nat → Nat} {f : Nat → Nat → Int64} {sz : Int32} {af : Int64} (R : RS Z h n0 S LV kV D xs ks N f sz af) : Fld Z h S "com/example/halfword/halfword/verify/RoundRobinSet" "size" "I" (.int sz) := R.2.2.1
theorem RS.fa {Z : State} {h : Heap} {n0 : Nat} {S LV : Addr} {kV : ClassId} {D : Nat} {xs : Nat → Addr} {ks : Nat → ClassId} {N : Nat → Nat} {f : Nat → Nat → Int64} {sz : Int32} {af : Int64} (R : RS Z h n0 S LV kV D xs ks N f sz af) : Fld Z h S "com/example/halfword/halfword/verify/RoundRobinSet" "after" "J" (.long af) := R.2.2.2.1
theorem RS.lv {Z : State} {h : Heap} {n0 : Nat} {S LV : Addr} {kV : ClassId} {D : Nat} {xs : Nat → Addr} {ks : Nat → ClassId} {N : Nat → Nat} {f : Nat → Nat → Int64} {sz : Int32} {af : Int64} (R : RS Z h n0 S LV kV D xs ks N f sz af) : GA Z h LV kV (.array .long) D (fun l => .ref (xs l)) := R.2.2.2.2.1
theorem RS.la {Z : State} {h : Heap} {n0 : Nat} {S LV : Addr} {kV : ClassId} {D : Nat} {xs : Nat → Addr} {ks : Nat → ClassId} {N : Nat → Nat} {f : Nat → Nat → Int64} {sz : Int32} {af : Int64} (R : RS Z h n0 S LV kV D xs ks N f sz af) : ∀ l, l < D → GA Z h (xs l) (ks l) .long (N l) (fun k => .long (f l k)) := R.2.2.2.2.2.1
theorem RS.gS {Z : State} {h : Heap} {n0 : Nat} {S LV : Addr} {kV : ClassId} {D : Nat} {xs : Nat → Addr} {ks : Nat → ClassId} {N : Nat → Nat} {f : Nat → Nat → Int64} {sz : Int32} {af : Int64} (R : RS Z h n0 S LV kV D xs ks N f sz af) : n0 ≤ S := R.2.2.2.2.2.2.1
theorem RS.gx {Z : State} {h : Heap} {n0 : Nat} {S LV : Addr} {kV : ClassId} {D : Nat} {xs : Nat → Addr} {ks : Nat → ClassId} {N : Nat → Nat} {f : Nat → Nat → Int64} {sz : Int32} {af : Int64} (R : RS Z h n0 S LV kV D xs ks N f sz af) : ∀ l, l < D → n0 ≤ xs l := R.2.2.2.2.2.2.2.1
theorem RS.nS {Z : State} {h : Heap} {n0 : Nat} {S LV : Addr} {kV : ClassId} {D : Nat} {xs : Nat → Addr} {ks : Nat → ClassId} {N : Nat → Nat} {f : Nat → Nat → Int64} {sz : Int32} {af : Int64} (R : RS Z h n0 S LV kV D xs ks N f sz af) : ∀ l, l < D → xs l ≠ S := R.2.2.2.2.2.2.2.2.1
theorem RS.nV {Z : State} {h : Heap} {n0 : Nat} {S LV : Addr} {kV : ClassId} {D : Nat} {xs : Nat → Addr} {ks : Nat → ClassId} {N : Nat → Nat} {f : Nat → Nat → Int64} {sz : Int32} {af : Int64} (R : RS Z h n0 S LV kV D xs ks N f sz af) : ∀ l, l < D → xs l ≠ LV := R.2.2.2.2.2.2.2.2.2.1
theorem RS.nd {Z : State} {h : Heap} {n0 : Nat} {S LV : Addr} {kV : ClassId} {D : Nat} {xs : Nat → Addr} {ks : Nat → ClassId} {N : Nat → Nat} {f : Nat → Nat → Int64} {sz : Int32} {af : Int64} (R : RS Z h n0 S LV kV D xs ks N f sz af) : ∀ l j, l < D → j < D → l ≠ j → xs l ≠ xs j := R.2.2.2.2.2.2.2.2.2.2.1
theorem RS.nSV {Z : State} {h : Heap} {n0 : Nat} {S LV : Addr} {kV : ClassId} {D : Nat} {xs : Nat → Addr} {ks : Nat → ClassId} {N : Nat → Nat} {f : Nat → Nat → Int64} {sz : Int32} {af : Int64} (R : RS Z h n0 S LV kV D xs ks N f sz af) : LV ≠ S := R.2.2.2.2.2.2.2.2.2.2.2
theorem RS.word {Z : State} {h h' : Heap} {n0 : Nat} {S LV : Addr} {kV : ClassId} {D : Nat} {xs : Nat → Addr} {ks : Nat → ClassId} {N : Nat → Nat} {f : Nat → Nat → Int64} {sz : Int32} {af : Int64} {l k : Nat} {w : Int64} (R : RS Z h n0 S LV kV D xs ks N f sz af) (hl : l < D) (hk : k < 2147483648) (W : Wr h h' (xs l) (Int32.ofNat k).toNatClampNeg (.long w)) : RS Z h' n0 S LV kV D xs ks N (up2 f l k w) sz af := by
  refine ⟨R.ex.wr W, R.fl.other W (Or.inl (R.nS l hl).symm), R.fs.other W (Or.inl (R.nS l hl).symm), R.fa.other W (Or.inl (R.nS l hl).symm), R.lv.other W (R.nV l hl).symm, fun j hj => ?_, R.gS, R.gx, R.nS, R.nV, R.nd, R.nSV⟩
  by_cases e : j = l
  · subst e
    obtain ⟨c, A, q1, q2, q3⟩ := R.la j hj
    refine (GA.set A q1 q2 q3 W).eqv fun i _ => ?_
    rw [own_cl hk]
    simp only [up2, if_true]
    by_cases u : i = k
    · simp [u]
    · simp [u]
  · refine ((R.la j hj).other W (R.nd j l hj hl e)).eqv fun i _ => ?_
    simp [up2, e]
theorem RS.aft {Z : State} {h h' : Heap} {n0 : Nat} {S LV : Addr} {kV : ClassId} {D : Nat} {xs : Nat → Addr} {ks : Nat → ClassId} {N : Nat → Nat} {f : Nat → Nat → Int64} {sz : Int32} {af af' : Int64} {sl : Nat} {v : Value} (R : RS Z h n0 S LV kV D xs ks N f sz af) (W : Wr h h' S sl v)
    (fl : Fld Z h' S "com/example/halfword/halfword/verify/RoundRobinSet" "levels" "[[J" (.ref LV)) (fs : Fld Z h' S "com/example/halfword/halfword/verify/RoundRobinSet" "size" "I" (.int sz)) (fa : Fld Z h' S "com/example/halfword/halfword/verify/RoundRobinSet" "after" "J" (.long af')) : RS Z h' n0 S LV kV D xs ks N f sz af' :=
  ⟨R.ex.wr W, fl, fs, fa, R.lv.other W R.nSV, fun j hj => (R.la j hj).other W (R.nS j hj), R.gS, R.gx, R.nS, R.nV, R.nd, R.nSV⟩
def RSM (Z : State) (n0 : Nat) (S : Addr) (sz af : Nat) (M : Nat → Prop) (h : Heap) : Prop := ∃ (LV : Addr) (kV : ClassId) (D : Nat) (xs : Nat → Addr) (ks : Nat → ClassId) (N : Nat → Nat) (f : Nat → Nat → Int64), RS Z h n0 S LV kV D xs ks N f (Int32.ofNat sz) (Int64.ofNat af) ∧ Shp sz D N ∧ Bt D N f (Lv M) ∧ (∀ e, M e → e < sz) ∧ af ≤ sz
theorem RSM.ex {Z : State} {n0 : Nat} {S : Addr} {sz af : Nat} {M : Nat → Prop} {h : Heap} (R : RSM Z n0 S sz af M h) : Exa Z h S "com/example/halfword/halfword/verify/RoundRobinSet" := by
  obtain ⟨_, _, _, _, _, _, _, R, -⟩ := R; exact R.ex
theorem RSM.le {Z : State} {n0 : Nat} {S : Addr} {sz af : Nat} {M : Nat → Prop} {h : Heap} (R : RSM Z n0 S sz af M h) : n0 ≤ h.size := by
  obtain ⟨_, _, _, _, _, _, _, R, -⟩ := R; exact Nat.le_trans R.gS (Nat.le_of_lt R.ex.lt)
def cN (sz : Nat) : Nat → Nat
  | 0 => sz
  | l + 1 => (cN sz l + 63) / 64 + (1 - (cN sz l + 63) / 64)
theorem own_cN (sz l : Nat) : cN sz (l + 1) = (cN sz l + 63) / 64 + (1 - (cN sz l + 63) / 64) := rfl
theorem own_cN_le {sz : Nat} (h : sz ≤ 1048575) : ∀ l, cN sz l ≤ 1048575
  | 0 => h
  | l + 1 => by have := own_cN_le h l; rw [own_cN]; omega
theorem own_cN_le' {sz : Nat} (h : sz ≤ 1048575) (l : Nat) : cN sz (l + 1) ≤ 16384 := by have := own_cN_le h l; rw [own_cN]; omega
theorem own_cN_256 {sz : Nat} (h : sz ≤ 1048575) (l : Nat) : cN sz (l + 1 + 1) ≤ 256 := by have := own_cN_le' h l; rw [own_cN]; omega
theorem own_shp {sz D : Nat} (h : sz ≤ 1048575) (d1 : 1 ≤ D) (d4 : D ≤ 4) (top : cN sz D = 1) : Shp sz D (fun l => cN sz (l + 1)) := by
  refine ⟨d1, d4, by show cN sz (D - 1 + 1) = 1; rw [show D - 1 + 1 = D from by omega]; exact top, ?_, fun l _ => ?_, fun l _ => own_cN_le' h l, fun l _ => ?_, h⟩
  · show sz ≤ 64 * cN sz (0 + 1)
    rw [own_cN]; show sz ≤ 64 * ((sz + 63) / 64 + (1 - (sz + 63) / 64)); omega
  · show cN sz (l + 1) ≤ 64 * cN sz (l + 1 + 1)
    rw [own_cN sz (l + 1)]; omega
  · show 1 ≤ cN sz (l + 1)
    rw [own_cN]; omega
theorem own_top1 {sz : Nat} (h : ¬ 64 < sz) : cN sz 1 = 1 := by
  show (sz + 63) / 64 + (1 - (sz + 63) / 64) = 1; omega
theorem own_top2 {sz : Nat} (h : 64 < sz) (h2 : ¬ 64 < (sz + 63) / 64) : cN sz 2 = 1 := by
  have e1 : cN sz 1 = (sz + 63) / 64 := by show (sz + 63) / 64 + (1 - (sz + 63) / 64) = _; omega
  rw [show (2 : Nat) = 1 + 1 from rfl, own_cN, e1]; omega
theorem own_top3 {sz : Nat} (h : 64 < sz) (h2 : 64 < (sz + 63) / 64) (h3 : ¬ 64 < ((sz + 63) / 64 + 63) / 64) : cN sz 3 = 1 := by
  have e1 : cN sz 1 = (sz + 63) / 64 := by show (sz + 63) / 64 + (1 - (sz + 63) / 64) = _; omega
  have e2 : cN sz 2 = ((sz + 63) / 64 + 63) / 64 := by rw [show (2 : Nat) = 1 + 1 from rfl, own_cN, e1]; omega
  rw [show (3 : Nat) = 2 + 1 from rfl, own_cN, e2]; omega
theorem own_top4 {sz : Nat} (hs : sz ≤ 1048575) (h : 64 < sz) (h2 : 64 < (sz + 63) / 64) (h3 : 64 < ((sz + 63) / 64 + 63) / 64) : cN sz 4 = 1 := by
  have e1 : cN sz 1 = (sz + 63) / 64 := by show (sz + 63) / 64 + (1 - (sz + 63) / 64) = _; omega
  have e2 : cN sz 2 = ((sz + 63) / 64 + 63) / 64 := by rw [show (2 : Nat) = 1 + 1 from rfl, own_cN, e1]; omega
  have e3 : cN sz 3 = (((sz + 63) / 64 + 63) / 64 + 63) / 64 := by rw [show (3 : Nat) = 2 + 1 from rfl, own_cN, e2]; omega
  rw [show (4 : Nat) = 3 + 1 from rfl, own_cN, e3]; omega
theorem own_i64c {k : Int64} {n : Nat} (h : k.toInt = n) : k = Int64.ofNat n := by
  apply Int64.toInt_inj.mp; have := k.toInt_lt; rw [h, own_i64 (by omega)]
theorem own_lc64 {x : Nat} (hx : x < 2147483648) : (0 : Int32) < lcmpW (Int64.ofNat x) (64 : Int64) ↔ 64 < x := by
  have a := c_lcmp (Int64.ofNat x) 64
  have e : (64 : Int64).toInt = 64 := rfl
  have z : (0 : Int32).toInt = 0 := rfl
  rw [own_i64 (by omega), e] at a
  rw [Int32.lt_iff_toInt_lt, z]
  constructor
  · intro h; refine Classical.byContradiction fun q => ?_
    rcases Nat.lt_or_ge x 64 with u | u
    · have := a.1 (by omega); omega
    · have := a.2.1 (by omega); omega
  · intro h; have := a.2.2 (by omega); omega
theorem own_lcneg {x : Nat} (hx : x < 2147483648) : ¬ lcmpW (Int64.ofNat x) (0 : Int64) < (0 : Int32) := by
  have a := c_lcmp (Int64.ofNat x) 0
  have e : (0 : Int64).toInt = 0 := rfl
  have z : (0 : Int32).toInt = 0 := rfl
  rw [own_i64 (by omega), e] at a
  rw [Int32.lt_iff_toInt_lt, z]
  intro h
  rcases Nat.eq_zero_or_pos x with u | u
  · have := a.2.1 (by omega); omega
  · have := a.2.2 (by omega); omega
theorem own_lcm1 : lcmpW (-1 : Int64) (0 : Int64) < (0 : Int32) := by decide
theorem own_max1 {x y : Nat} (hx : x < 2147483648) (h : x + (1 - x) = y) : (lcmpW (1 : Int64) (Int64.ofNat x) < (0 : Int32) → Int64.ofNat x = Int64.ofNat y) ∧ (¬ lcmpW (1 : Int64) (Int64.ofNat x) < (0 : Int32) → (1 : Int64) = Int64.ofNat y) := by
  have a := c_lcmp 1 (Int64.ofNat x)
  have e : (1 : Int64).toInt = 1 := rfl
  have z : (0 : Int32).toInt = 0 := rfl
  rw [own_i64 (by omega), e] at a
  rw [Int32.lt_iff_toInt_lt, z]
  constructor
  · intro q
    rcases Nat.lt_or_ge 1 x with u | u
    · rw [show y = x from by omega]
    · rcases Nat.lt_or_ge x 1 with w | w
      · have := a.2.2 (by omega); omega
      · have := a.2.1 (by omega); omega
  · intro q
    rcases Nat.lt_or_ge 1 x with u | u
    · have := a.1 (by omega); omega
    · rw [show y = 1 from by omega]; rfl
theorem own_imod {x : Int32} {sz : Nat} (h : ¬ Int32.ofNat sz = (0 : Int32)) (hs : sz ≤ 1048575) : ∃ i, i < sz ∧ ((x &&& (2147483647 : Int32)) % (Int32.ofNat sz)) = Int32.ofNat i := by
  have hp : 0 < sz := Nat.pos_of_ne_zero fun q => h (by rw [q]; rfl)
  obtain ⟨h1, h2⟩ := own_mod x (Int32.ofNat sz) sz (own_i32 (by omega)) (by omega)
  exact ⟨_, own_clamp h1 h2, own_nat h1⟩
theorem own_size (x : Int32) : ∃ n, n ≤ 1048575 ∧ (x &&& (1048575 : Int32)) = Int32.ofNat n := by
  have h := c_and x 1048575 (by decide)
  have e : (1048575 : Int32).toInt = 1048575 := rfl
  refine ⟨_, ?_, own_nat h.1⟩
  have := h.2; rw [e] at this; simp only [Int32.toNatClampNeg]; omega
theorem own_inj {i j : Nat} (hi : i < 2147483648) (hj : j < 2147483648) : Int32.ofNat i = Int32.ofNat j ↔ i = j := by
  constructor
  · intro h; have := congrArg Int32.toInt h; rw [own_i32 hi, own_i32 hj] at this; omega
  · intro h; rw [h]
theorem Cnt.same' {i j : Nat} (h : j = i) : Cnt (Ad (Ad (fun _ => False) i) j) 1 := by subst h; exact Cnt.same _
theorem Cnt.zero : Cnt (fun _ => False) 0 := fun _ q => q
theorem own_retL {p : Program} {l : Launch} {e : Env} {R : Room} {s : State} {m : MethodId} {args : Array Value} {below : List Frame} {meth : Method} {c : Code} {T : State} {locs : List Loc} {cells slots : Nat} (X : Stand p l e R s m args below meth c T locs cells slots) (hx : p.tables.exec = Jvm.exec) {pc : Nat} {Ls : Array Slot} {z : Int64} {rest : List Value} (hret : meth.sig.returnType = some .long) (hd : decode c.code pc = .ok (.lreturn, 1)) {fs : List Frame}
    (hl : ∀ (f : JFrame) (acts : List Action), f.method = m → f.locked = none → f.entered = [] → (doReturn e (T.setTop f) acts (some (.long z))).1 = T.setFrames fs) : Steps p.tables e below (T.setTop (mkF m pc Ls (.long z :: rest))) (T.setFrames fs) := by
  have hm' : T.vm.method? m = some meth := X.method'
  show Steps p.tables e below (T.setTop { method := m, pc := pc, locals := Ls, stack := _ :: rest, locked := none }) _
  jvm_step X.here [X.here.top, hx, hd, hm', hret, narrow]
  first | (intro acts; rw [hl _ acts rfl rfl rfl]) | rw [hl _ _ rfl rfl rfl]
  exact Steps.refl _
def QV (h0 : Heap) (n0 : Nat) (v : Option Value) (h : Heap) (L : List Loc) : Prop := v = none ∧ Fr n0 L ∧ h = h0
def QRS (Z : State) (n0 : Nat) (S : Addr) (sz af : Nat) (M : Nat → Prop) (v : Option Value) (h : Heap) (L : List Loc) : Prop := v = none ∧ Fr n0 L ∧ RSM Z n0 S sz af M h
def QNx (n0 : Nat) (M : Nat → Prop) (frm : Nat) (h0 : Heap) (v : Option Value) (h : Heap) (L : List Loc) : Prop := ∃ r : Int64, v = some (.long r) ∧ Fr n0 L ∧ h = h0 ∧ ((r = (-1 : Int64) ∧ ∀ e, M e → e < frm) ∨ ∃ x, r = Int64.ofNat x ∧ M x)
def QTk (Z : State) (n0 : Nat) (S : Addr) (sz : Nat) (M : Nat → Prop) (v : Option Value) (h : Heap) (L : List Loc) : Prop := ∃ (x : Nat) (z : Int32), v = some (.int z) ∧ Fr n0 L ∧ M x ∧ RSM Z n0 S sz (x + 1) (Rm M x) h
def Two (a b : Slot) : Prop := (a = .unset ∧ b = .unset) ∨ ∃ x : Int64, a = .val (.long x) ∧ b = .second
theorem own_addL1 (i : Nat) : Int64.ofNat i + (1 : Int64) = Int64.ofNat (i + 1) := own_addL
theorem own_down1 (i : Nat) : Int32.ofNat (i + 1) + (-1 : Int32) = Int32.ofNat i := by
  rw [Int32.ofNat_add]; show Int32.ofNat i + (1 : Int32) + (-1 : Int32) = _; rw [Int32.add_assoc]; show Int32.ofNat i + (0 : Int32) = _; simp
theorem own_lv0 {M : Nat → Prop} {v : Nat} (h : Lv M 0 v) : M v := by
  obtain ⟨e, he, q⟩ := h; simp at q; rw [← q]; exact he
theorem own_ntz_tab {Z s : State} {a0 args : Array Value} (hZ : Z.Warmed39 s.vm) (hw : ∀ d ∈ tables_1, d.before a0 Z = true) : Jvm.Free.JP.Long_numberOfTrailingZeros_J.tab.before args s = true := by
  have ti : Jvm.Free.JP.Integer_numberOfTrailingZeros_I.tab.before args s = true := by
    refine Jvm.Free.XT.unparts (mvT hZ (hw _ (List.mem_of_getElem? (i := 64) rfl))) fun w h => ?_
    rcases List.mem_cons.mp h with rfl | h
    · exact mvT hZ (hw _ (List.mem_of_getElem? (i := 63) rfl))
    · have h : w ∈ [Jvm.Cond.constant "java/lang/Integer" 264 65536] := h
      rcases List.mem_cons.mp h with rfl | h
      · exact mvT hZ (hw _ (List.mem_of_getElem? (i := 65) rfl))
      · cases h
  refine Jvm.Free.XT.unparts (mvT hZ (hw _ (List.mem_of_getElem? (i := 60) rfl))) fun w h => ?_
  rcases List.mem_cons.mp h with rfl | h
  · exact mvT hZ (hw _ (List.mem_of_getElem? (i := 59) rfl))
  · have h : w ∈ [Jvm.Free.JP.Integer_numberOfTrailingZeros_I.tab, .methodLink "java/lang/Long" 311 Jvm.Free.JP.Integer_numberOfTrailingZeros_I.yN, .static Jvm.Free.JP.Integer_numberOfTrailingZeros_I.yN] := h
    rcases List.mem_cons.mp h with rfl | h
    · exact ti
    · rcases List.mem_cons.mp h with rfl | h
      · exact mvT hZ (hw _ (List.mem_of_getElem? (i := 61) rfl))
      · rcases List.mem_cons.mp h with rfl | h
        · exact mvT hZ (hw _ (List.mem_of_getElem? (i := 62) rfl))
        · cases h
theorem d3_0 : decode prog_103_method_2_code 0 = .ok (.lload_n 0, 1) := by decide +kernel
theorem d3_1 : decode prog_103_method_2_code 1 = .ok (.ldc2_w 24, 3) := by decide +kernel
theorem d3_4 : decode prog_103_method_2_code 4 = .ok (.ladd, 1) := by decide +kernel
theorem d3_5 : decode prog_103_method_2_code 5 = .ok (.lconst 1, 1) := by decide +kernel
theorem d3_6 : decode prog_103_method_2_code 6 = .ok (.lsub, 1) := by decide +kernel
theorem d3_7 : decode prog_103_method_2_code 7 = .ok (.bipush 6, 2) := by decide +kernel
theorem d3_9 : decode prog_103_method_2_code 9 = .ok (.lushr, 1) := by decide +kernel
theorem d3_10 : decode prog_103_method_2_code 10 = .ok (.lreturn, 1) := by decide +kernel
theorem pn_3 : plainName "com/example/halfword/halfword/verify/RoundRobinSet" = true := by first | (simp [plainName, overriddenIn]; done) | decide +kernel
theorem ef_rWo (m : MethodId) (x0 : Int64) : entryFrame m #[(.long x0)] 2 = mkF m 0 #[.val (.long x0), .second] [] := by first | (simp [entryFrame, mkF, argsToLocals, Value.category]; done) | rfl
set_option maxRecDepth 65536 in
set_option maxHeartbeats 40000000 in
theorem rWo (l : Launch) (Z : State) (a0 : Array Value) (hw : ∀ d ∈ tables_1, d.before a0 Z = true) (ws : List Jvm.Cond)  (i : Nat) (hi : i < 2147483000) (h0 : Heap) (n0 : Nat) (Z0 : n0 ≤ h0.size) :
    MetFree l (⟨"com/example/halfword/halfword/verify/RoundRobinSet", "words", "(J)J"⟩ : MethodName) (head1 (Jvm.Cond.code (⟨"com/example/halfword/halfword/verify/RoundRobinSet", "words", "(J)J"⟩ : MethodName) prog_103_method_2_code 2 (some .long) :: ws) ({ frames := 0, cells := 0, slots := 0, locals := 0 } : Room)) (fun a U => a = #[(.long (Int64.ofNat i))] ∧ Z.Warmed39 U.vm ∧ U.heap = h0) (fun _ _ _ _ _ => True) (fun _ U o U' => ∃ v L, o = .returned v ∧ QR (.long (Int64.ofNat ((i + 63) / 64))) h0 n0 v U'.heap L ∧ FrameEnd U o U' L ({ frames := 0, cells := 0, slots := 0, locals := 0 } : Room).cells ({ frames := 0, cells := 0, slots := 0, locals := 0 } : Room).slots) := by
  refine MetFree.of_bodySF (plainFor_of_name pn_3) hisR ?_
  intro p e s m args below meth c s₁ Bd hml0 hP hK
  obtain ⟨rfl, hZ, hh⟩ := hP
  have hx := Bd.exec
  have hby := Bd.bytes
  have hml : c.maxLocals = 2 := hml0
  have hown : s.vm.findClass "com/example/halfword/halfword/verify/RoundRobinSet" = some m.cls := findClass_of_methodNamed Bd.named
  have hnm := (name_of_methodNamed Bd.named Bd.method).1
  have X0 : Stand p l e ({ frames := 0, cells := 0, slots := 0, locals := 0 } : Room) s m #[(.long (Int64.ofNat i))] below meth c s₁ [] 0 0 := Stand.of_body Bd
  have e0 : s₁.heap = h0 := by rw [← hh, Bd.state]; rfl
  have N0 := Fr.nil n0
  have pre0 : ∀ t, Steps p.tables e below (s₁.setTop (mkF m 0 #[.val (.long (Int64.ofNat i)), .second] [])) t → Steps p.tables e below (s₁.setTop (entryFrame m #[(.long (Int64.ofNat i))] 2)) t := fun t k => castTop (ef_rWo m (Int64.ofNat i)) k
  obtain ⟨fs, hr, hrun, hended, hW, hsame⟩ := X0.leave (v := some (.long (((((Int64.ofNat i) + (64 : Int64)) - (1 : Int64)).toUInt64 >>> ((6 : Int32) &&& 0x3f).toInt64.toUInt64).toInt64))) (fun h => by rw [Bd.returns] at h; cases h)
  refine ⟨_, _, pre0 _ ?_, hrun, hended, _, _, rfl, ?_, ⟨_, rfl⟩, hW, hsame.mono (by decide) (by decide)⟩
  · skip
    show Steps p.tables e below (s₁.setTop (mkF m 0 #[.val (.long (Int64.ofNat i)), .second] [])) _
    refine XS.lloadN X0.here hx rfl (hb hby d3_0) rfl ?_
    show Steps p.tables e below (s₁.setTop (mkF m 1 #[.val (.long (Int64.ofNat i)), .second] [(.long (Int64.ofNat i))])) _
    refine X0.ldc2Long hx hown (mvT hZ (hw _ (List.mem_of_getElem? (i := 12) rfl))) (g := (mkF m 1 #[.val (.long (Int64.ofNat i)), .second] [(.long (Int64.ofNat i))])) rfl (hb hby d3_1) _ ?_
    show Steps p.tables e below (s₁.setTop (mkF m 4 #[.val (.long (Int64.ofNat i)), .second] [(.long (64 : Int64)), (.long (Int64.ofNat i))])) _
    refine XS.ladd X0.here hx rfl (hb hby d3_4) rfl ?_
    show Steps p.tables e below (s₁.setTop (mkF m 5 #[.val (.long (Int64.ofNat i)), .second] [(.long ((Int64.ofNat i) + (64 : Int64)))])) _
    refine XS.lconst X0.here hx rfl (hb hby d3_5) ?_
    show Steps p.tables e below (s₁.setTop (mkF m 6 #[.val (.long (Int64.ofNat i)), .second] [(.long (1 : Int64)), (.long ((Int64.ofNat i) + (64 : Int64)))])) _
    refine XS.lsub X0.here hx rfl (hb hby d3_6) rfl ?_
    show Steps p.tables e below (s₁.setTop (mkF m 7 #[.val (.long (Int64.ofNat i)), .second] [(.long (((Int64.ofNat i) + (64 : Int64)) - (1 : Int64)))])) _
    refine XS.bipush X0.here hx rfl (hb hby d3_7) ?_
    show Steps p.tables e below (s₁.setTop (mkF m 9 #[.val (.long (Int64.ofNat i)), .second] [(.int (6 : Int32)), (.long (((Int64.ofNat i) + (64 : Int64)) - (1 : Int64)))])) _
    refine XS.lushr X0.here hx rfl (hb hby d3_9) rfl ?_
    show Steps p.tables e below (s₁.setTop (mkF m 10 #[.val (.long (Int64.ofNat i)), .second] [(.long (((((Int64.ofNat i) + (64 : Int64)) - (1 : Int64)).toUInt64 >>> ((6 : Int32) &&& 0x3f).toInt64.toUInt64).toInt64))])) _
    exact own_retL X0 hx Bd.returns (hb hby d3_10) hr
  · show QR (.long (Int64.ofNat ((i + 63) / 64))) h0 n0 _ s₁.heap _
    rw [e0]
    exact ⟨(congrArg (fun z => some (Value.long z)) (own_words hi)), N0, rfl⟩
theorem d4_0 : decode jdk_29_method_66_code 0 = .ok (.lload_n 0, 1) := by decide +kernel
theorem d4_1 : decode jdk_29_method_66_code 1 = .ok (.lload_n 2, 1) := by decide +kernel
theorem d4_2 : decode jdk_29_method_66_code 2 = .ok (.lcmp, 1) := by decide +kernel
theorem d4_3 : decode jdk_29_method_66_code 3 = .ok (.ifCond .lt 7, 3) := by decide +kernel
theorem d4_10 : decode jdk_29_method_66_code 10 = .ok (.lload_n 2, 1) := by decide +kernel
theorem d4_11 : decode jdk_29_method_66_code 11 = .ok (.lreturn, 1) := by decide +kernel
theorem d4_6 : decode jdk_29_method_66_code 6 = .ok (.lload_n 0, 1) := by decide +kernel
theorem d4_7 : decode jdk_29_method_66_code 7 = .ok (.goto 4, 3) := by decide +kernel
theorem ef_rMx (m : MethodId) (x0 : Int64) (x1 : Int64) : entryFrame m #[(.long x0), (.long x1)] 4 = mkF m 0 #[.val (.long x0), .second, .val (.long x1), .second] [] := by first | (simp [entryFrame, mkF, argsToLocals, Value.category]; done) | rfl
set_option maxRecDepth 65536 in
set_option maxHeartbeats 40000000 in
theorem rMx (l : Launch) (Z : State) (a0 : Array Value) (hw : ∀ d ∈ tables_1, d.before a0 Z = true) (ws : List Jvm.Cond)  (x y : Nat) (hx0 : x < 2147483648) (hy : x + (1 - x) = y) (h0 : Heap) (n0 : Nat) (Z0 : n0 ≤ h0.size) :
    MetFree l (⟨"java/lang/Math", "max", "(JJ)J"⟩ : MethodName) (head1 (Jvm.Cond.code (⟨"java/lang/Math", "max", "(JJ)J"⟩ : MethodName) jdk_29_method_66_code 4 (some .long) :: ws) ({ frames := 0, cells := 0, slots := 0, locals := 0 } : Room)) (fun a U => a = #[(.long (1 : Int64)), (.long (Int64.ofNat x))] ∧ Z.Warmed39 U.vm ∧ U.heap = h0) (fun _ _ _ _ _ => True) (fun _ U o U' => ∃ v L, o = .returned v ∧ QR (.long (Int64.ofNat y)) h0 n0 v U'.heap L ∧ FrameEnd U o U' L ({ frames := 0, cells := 0, slots := 0, locals := 0 } : Room).cells ({ frames := 0, cells := 0, slots := 0, locals := 0 } : Room).slots) := by
  refine MetFree.of_bodySF (Jvm.Free.JP.mathPlain rfl (by decide +kernel)) hisR ?_
  intro p e s m args below meth c s₁ Bd hml0 hP hK
  obtain ⟨rfl, hZ, hh⟩ := hP
  have hx := Bd.exec
  have hby := Bd.bytes
  have hml : c.maxLocals = 4 := hml0
  have hown : s.vm.findClass "java/lang/Math" = some m.cls := findClass_of_methodNamed Bd.named
  have hnm := (name_of_methodNamed Bd.named Bd.method).1
  have X0 : Stand p l e ({ frames := 0, cells := 0, slots := 0, locals := 0 } : Room) s m #[(.long (1 : Int64)), (.long (Int64.ofNat x))] below meth c s₁ [] 0 0 := Stand.of_body Bd
  have e0 : s₁.heap = h0 := by rw [← hh, Bd.state]; rfl
  have N0 := Fr.nil n0
  have pre0 : ∀ t, Steps p.tables e below (s₁.setTop (mkF m 0 #[.val (.long (1 : Int64)), .second, .val (.long (Int64.ofNat x)), .second] [])) t → Steps p.tables e below (s₁.setTop (entryFrame m #[(.long (1 : Int64)), (.long (Int64.ofNat x))] 4)) t := fun t k => castTop (ef_rMx m (1 : Int64) (Int64.ofNat x)) k
  have pre1 : ∀ t, Steps p.tables e below (s₁.setTop (mkF m 3 #[.val (.long (1 : Int64)), .second, .val (.long (Int64.ofNat x)), .second] [(.int (lcmpW (1 : Int64) (Int64.ofNat x)))])) t → Steps p.tables e below (s₁.setTop (entryFrame m #[(.long (1 : Int64)), (.long (Int64.ofNat x))] 4)) t := by
    intro t kt
    refine pre0 t ?_
    show Steps p.tables e below (s₁.setTop (mkF m 0 #[.val (.long (1 : Int64)), .second, .val (.long (Int64.ofNat x)), .second] [])) _
    refine XS.lloadN X0.here hx rfl (hb hby d4_0) rfl ?_
    show Steps p.tables e below (s₁.setTop (mkF m 1 #[.val (.long (1 : Int64)), .second, .val (.long (Int64.ofNat x)), .second] [(.long (1 : Int64))])) _
    refine XS.lloadN X0.here hx rfl (hb hby d4_1) rfl ?_
    show Steps p.tables e below (s₁.setTop (mkF m 2 #[.val (.long (1 : Int64)), .second, .val (.long (Int64.ofNat x)), .second] [(.long (Int64.ofNat x)), (.long (1 : Int64))])) _
    refine XS.lcmp X0.here hx rfl (hb hby d4_2) rfl ?_
    exact kt
  by_cases hc2 : (lcmpW (1 : Int64) (Int64.ofNat x)) < (0 : Int32)
  · skip
    obtain ⟨fs, hr, hrun, hended, hW, hsame⟩ := X0.leave (v := some (.long (Int64.ofNat x))) (fun h => by rw [Bd.returns] at h; cases h)
    refine ⟨_, _, pre1 _ ?_, hrun, hended, _, _, rfl, ?_, ⟨_, rfl⟩, hW, hsame.mono (by decide) (by decide)⟩
    · skip
      show Steps p.tables e below (s₁.setTop (mkF m 3 #[.val (.long (1 : Int64)), .second, .val (.long (Int64.ofNat x)), .second] [(.int (lcmpW (1 : Int64) (Int64.ofNat x)))])) _
      refine XS.ifYes X0.here hx rfl (pc0 := 3) (pc' := 10) rfl (hb hby d4_3) rfl ((if0 _ _).trans (tlt hc2).1) (by decide) (by decide) ?_
      show Steps p.tables e below (s₁.setTop (mkF m 10 #[.val (.long (1 : Int64)), .second, .val (.long (Int64.ofNat x)), .second] [])) _
      refine XS.lloadN X0.here hx rfl (hb hby d4_10) rfl ?_
      show Steps p.tables e below (s₁.setTop (mkF m 11 #[.val (.long (1 : Int64)), .second, .val (.long (Int64.ofNat x)), .second] [(.long (Int64.ofNat x))])) _
      exact own_retL X0 hx Bd.returns (hb hby d4_11) hr
    · show QR (.long (Int64.ofNat y)) h0 n0 _ s₁.heap _
      rw [e0]
      exact ⟨(congrArg (fun z => some (Value.long z)) ((own_max1 hx0 hy).1 hc2)), N0, rfl⟩
  · skip
    obtain ⟨fs, hr, hrun, hended, hW, hsame⟩ := X0.leave (v := some (.long (1 : Int64))) (fun h => by rw [Bd.returns] at h; cases h)
    refine ⟨_, _, pre1 _ ?_, hrun, hended, _, _, rfl, ?_, ⟨_, rfl⟩, hW, hsame.mono (by decide) (by decide)⟩
    · skip
      show Steps p.tables e below (s₁.setTop (mkF m 3 #[.val (.long (1 : Int64)), .second, .val (.long (Int64.ofNat x)), .second] [(.int (lcmpW (1 : Int64) (Int64.ofNat x)))])) _
      refine XS.ifNo X0.here hx rfl (hb hby d4_3) rfl ((if0 _ _).trans (flt hc2).1) ?_
      show Steps p.tables e below (s₁.setTop (mkF m 6 #[.val (.long (1 : Int64)), .second, .val (.long (Int64.ofNat x)), .second] [])) _
      refine XS.lloadN X0.here hx rfl (hb hby d4_6) rfl ?_
      show Steps p.tables e below (s₁.setTop (mkF m 7 #[.val (.long (1 : Int64)), .second, .val (.long (Int64.ofNat x)), .second] [(.long (1 : Int64))])) _
      refine XS.goto X0.here hx rfl (pc0 := 7) (pc' := 11) rfl (hb hby d4_7) (by decide) (by decide) ?_
      show Steps p.tables e below (s₁.setTop (mkF m 11 #[.val (.long (1 : Int64)), .second, .val (.long (Int64.ofNat x)), .second] [(.long (1 : Int64))])) _
      exact own_retL X0 hx Bd.returns (hb hby d4_11) hr
    · show QR (.long (Int64.ofNat y)) h0 n0 _ s₁.heap _
      rw [e0]
      exact ⟨(congrArg (fun z => some (Value.long z)) ((own_max1 hx0 hy).2 hc2)), N0, rfl⟩
theorem d8_0 : decode jdk_41_method_11_code 0 = .ok (.iload_n 0, 1) := by decide +kernel
theorem d8_1 : decode jdk_41_method_11_code 1 = .ok (.ifCond .lt 8, 3) := by decide +kernel
theorem d8_4 : decode jdk_41_method_11_code 4 = .ok (.iload_n 0, 1) := by decide +kernel
theorem d8_5 : decode jdk_41_method_11_code 5 = .ok (.iload_n 1, 1) := by decide +kernel
theorem d8_6 : decode jdk_41_method_11_code 6 = .ok (.if_icmp .lt 10, 3) := by decide +kernel
theorem d8_16 : decode jdk_41_method_11_code 16 = .ok (.iload_n 0, 1) := by decide +kernel
theorem d8_17 : decode jdk_41_method_11_code 17 = .ok (.ireturn, 1) := by decide +kernel
theorem pn_8 : plainName "jdk/internal/util/Preconditions" = true := by first | (simp [plainName, overriddenIn]; done) | decide +kernel
theorem ef_rPc (m : MethodId) (x0 : Int32) (x1 : Int32) : entryFrame m #[(.int x0), (.int x1), .null] 3 = mkF m 0 #[.val (.int x0), .val (.int x1), .val .null] [] := by first | (simp [entryFrame, mkF, argsToLocals, Value.category]; done) | rfl
set_option maxRecDepth 65536 in
set_option maxHeartbeats 40000000 in
theorem rPc (l : Launch) (Z : State) (a0 : Array Value) (hw : ∀ d ∈ tables_1, d.before a0 Z = true) (ws : List Jvm.Cond) (p0 : Int32) (p1 : Int32) (h0 : Heap) (n0 : Nat) (Z0 : n0 ≤ h0.size) (hi0 : ¬ p0 < (0 : Int32)) (hi1 : p0 < p1) :
    MetFree l (⟨"jdk/internal/util/Preconditions", "checkIndex", "(IILjava/util/function/BiFunction;)I"⟩ : MethodName) (head1 (Jvm.Cond.code (⟨"jdk/internal/util/Preconditions", "checkIndex", "(IILjava/util/function/BiFunction;)I"⟩ : MethodName) jdk_41_method_11_code 3 (some .int) :: ws) ({ frames := 0, cells := 0, slots := 0, locals := 0 } : Room)) (fun a U => a = #[(.int p0), (.int p1), .null] ∧ Z.Warmed39 U.vm ∧ U.heap = h0) (fun _ _ _ _ _ => True) (fun _ U o U' => ∃ v L, o = .returned v ∧ QR (.int p0) h0 n0 v U'.heap L ∧ FrameEnd U o U' L ({ frames := 0, cells := 0, slots := 0, locals := 0 } : Room).cells ({ frames := 0, cells := 0, slots := 0, locals := 0 } : Room).slots) := by
  refine MetFree.of_bodySF (plainFor_of_name pn_8) hisR ?_
  intro p e s m args below meth c s₁ Bd hml0 hP hK
  obtain ⟨rfl, hZ, hh⟩ := hP
  have hx := Bd.exec
  have hby := Bd.bytes
  have hml : c.maxLocals = 3 := hml0
  have hown : s.vm.findClass "jdk/internal/util/Preconditions" = some m.cls := findClass_of_methodNamed Bd.named
  have hnm := (name_of_methodNamed Bd.named Bd.method).1
  have X0 : Stand p l e ({ frames := 0, cells := 0, slots := 0, locals := 0 } : Room) s m #[(.int p0), (.int p1), .null] below meth c s₁ [] 0 0 := Stand.of_body Bd
  have e0 : s₁.heap = h0 := by rw [← hh, Bd.state]; rfl
  have N0 := Fr.nil n0
  have pre0 : ∀ t, Steps p.tables e below (s₁.setTop (mkF m 0 #[.val (.int p0), .val (.int p1), .val .null] [])) t → Steps p.tables e below (s₁.setTop (entryFrame m #[(.int p0), (.int p1), .null] 3)) t := fun t k => castTop (ef_rPc m p0 p1) k
  obtain ⟨fs, hr, hrun, hended, hW, hsame⟩ := X0.leave (v := some (.int p0)) (fun h => by rw [Bd.returns] at h; cases h)
  refine ⟨_, _, pre0 _ ?_, hrun, hended, _, _, rfl, ?_, ⟨_, rfl⟩, hW, hsame.mono (by decide) (by decide)⟩
  · skip
    show Steps p.tables e below (s₁.setTop (mkF m 0 #[.val (.int p0), .val (.int p1), .val .null] [])) _
    refine XS.iloadN X0.here hx rfl (hb hby d8_0) rfl ?_
    show Steps p.tables e below (s₁.setTop (mkF m 1 #[.val (.int p0), .val (.int p1), .val .null] [(.int p0)])) _
    refine XS.ifNo X0.here hx rfl (hb hby d8_1) rfl ((if0 _ _).trans (flt hi0).1) ?_
    show Steps p.tables e below (s₁.setTop (mkF m 4 #[.val (.int p0), .val (.int p1), .val .null] [])) _
    refine XS.iloadN X0.here hx rfl (hb hby d8_4) rfl ?_
    show Steps p.tables e below (s₁.setTop (mkF m 5 #[.val (.int p0), .val (.int p1), .val .null] [(.int p0)])) _
    refine XS.iloadN X0.here hx rfl (hb hby d8_5) rfl ?_
    show Steps p.tables e below (s₁.setTop (mkF m 6 #[.val (.int p0), .val (.int p1), .val .null] [(.int p1), (.int p0)])) _
    refine XS.icmpYes X0.here hx rfl (pc0 := 6) (pc' := 16) rfl (hb hby d8_6) rfl (tlt hi1).1 (by decide) (by decide) ?_
    show Steps p.tables e below (s₁.setTop (mkF m 16 #[.val (.int p0), .val (.int p1), .val .null] [])) _
    refine XS.iloadN X0.here hx rfl (hb hby d8_16) rfl ?_
    show Steps p.tables e below (s₁.setTop (mkF m 17 #[.val (.int p0), .val (.int p1), .val .null] [(.int p0)])) _
    exact retI X0 hx Bd.returns (hb hby d8_17) hr
  · show QR (.int p0) h0 n0 _ s₁.heap _
    rw [e0]
    exact ⟨(by first | rfl | simp []), N0, rfl⟩
theorem d7_0 : decode jdk_31_method_17_code 0 = .ok (.iload_n 0, 1) := by decide +kernel
theorem d7_1 : decode jdk_31_method_17_code 1 = .ok (.iload_n 1, 1) := by decide +kernel
theorem d7_2 : decode jdk_31_method_17_code 2 = .ok (.aconst_null, 1) := by decide +kernel
theorem d7_3 : decode jdk_31_method_17_code 3 = .ok (.invokestatic 105, 3) := by decide +kernel
theorem pd__IILjava_util_function_BiFunction__I : parseMethodDescriptor "(IILjava/util/function/BiFunction;)I" = some ⟨[.int, .int, (.object "java/util/function/BiFunction")], some .int⟩ := by decide +kernel
theorem d7_6 : decode jdk_31_method_17_code 6 = .ok (.ireturn, 1) := by decide +kernel
theorem pn_7 : plainName "java/util/Objects" = true := by first | (simp [plainName, overriddenIn]; done) | decide +kernel
theorem ef_rOb (m : MethodId) (x0 : Int32) (x1 : Int32) : entryFrame m #[(.int x0), (.int x1)] 2 = mkF m 0 #[.val (.int x0), .val (.int x1)] [] := by first | (simp [entryFrame, mkF, argsToLocals, Value.category]; done) | rfl
set_option maxRecDepth 65536 in
set_option maxHeartbeats 40000000 in
theorem rOb (l : Launch) (Z : State) (a0 : Array Value) (hw : ∀ d ∈ tables_1, d.before a0 Z = true) (ws : List Jvm.Cond) (p0 : Int32) (p1 : Int32) (h0 : Heap) (n0 : Nat) (Z0 : n0 ≤ h0.size) (hi0 : ¬ p0 < (0 : Int32)) (hi1 : p0 < p1) :
    MetFree l (⟨"java/util/Objects", "checkIndex", "(II)I"⟩ : MethodName) (head1 (Jvm.Cond.code (⟨"java/util/Objects", "checkIndex", "(II)I"⟩ : MethodName) jdk_31_method_17_code 2 (some .int) :: ws) ({ frames := 1, cells := 0, slots := 0, locals := 14 } : Room)) (fun a U => a = #[(.int p0), (.int p1)] ∧ Z.Warmed39 U.vm ∧ U.heap = h0) (fun _ _ _ _ _ => True) (fun _ U o U' => ∃ v L, o = .returned v ∧ QR (.int p0) h0 n0 v U'.heap L ∧ FrameEnd U o U' L ({ frames := 1, cells := 0, slots := 0, locals := 14 } : Room).cells ({ frames := 1, cells := 0, slots := 0, locals := 14 } : Room).slots) := by
  refine MetFree.of_bodySF (plainFor_of_name pn_7) hisR ?_
  intro p e s m args below meth c s₁ Bd hml0 hP hK
  obtain ⟨rfl, hZ, hh⟩ := hP
  have hx := Bd.exec
  have hby := Bd.bytes
  have hml : c.maxLocals = 2 := hml0
  have hown : s.vm.findClass "java/util/Objects" = some m.cls := findClass_of_methodNamed Bd.named
  have hnm := (name_of_methodNamed Bd.named Bd.method).1
  have X0 : Stand p l e ({ frames := 1, cells := 0, slots := 0, locals := 14 } : Room) s m #[(.int p0), (.int p1)] below meth c s₁ [] 0 0 := Stand.of_body Bd
  have e0 : s₁.heap = h0 := by rw [← hh, Bd.state]; rfl
  have N0 := Fr.nil n0
  have pre0 : ∀ t, Steps p.tables e below (s₁.setTop (mkF m 0 #[.val (.int p0), .val (.int p1)] [])) t → Steps p.tables e below (s₁.setTop (entryFrame m #[(.int p0), (.int p1)] 2)) t := fun t k => castTop (ef_rOb m p0 p1) k
  obtain ⟨_, _, ⟨T1, L1, k1, n1⟩, -, X1, ⟨Lc1, hQ1, l1, y1, z1⟩, st1⟩ := Jvm.LawKit.callS X0 hx (y := (⟨"jdk/internal/util/Preconditions", "checkIndex", "(IILjava/util/function/BiFunction;)I"⟩ : MethodName)) hown (mvT hZ (hw _ (List.mem_of_getElem? (i := 41) rfl))) (mvT hZ (hw _ (List.mem_of_getElem? (i := 42) rfl))) (mvT hZ (hw _ (List.mem_of_getElem? (i := 43) rfl))) (mvT hZ (hw _ (List.mem_of_getElem? (i := 44) rfl))) (by decide) (backOf (W := 0) (rPc l Z a0 hw [] p0 p1 h0 n0 Z0 hi0 hi1) hZ (hw _ (List.mem_of_getElem? (i := 44) rfl)) (hw _ (List.mem_of_getElem? (i := 43) rfl)) (by decide) (by decide)) (g := (mkF m 3 #[.val (.int p0), .val (.int p1)] [.null, (.int p1), (.int p0)])) rfl (by rw [hml]; rfl) (argsL := [(.int p0), (.int p1), .null]) (rest := []) (lenOf pd__IILjava_util_function_BiFunction__I rfl) rfl (by show 2 * 0 + _ ≤ _; exact Nat.le_of_eq rfl) (hb hby d7_3) (fun _ _ => ⟨rfl, e0, (by decide : 0 + 0 ≤ _), (by decide : 0 + 0 ≤ _)⟩)
  dsimp only [Pt.U, Pt.locs, Pt.cells, Pt.slots] at X1 l1 y1 z1 st1 hQ1
  rw [l1, y1, z1] at X1
  obtain ⟨rfl, N1q, e1⟩ := hQ1
  have N1 := Fr.app N0 N1q
  obtain ⟨fs, hr, hrun, hended, hW, hsame⟩ := X1.leave (v := some (.int p0)) (fun h => by rw [Bd.returns] at h; cases h)
  refine ⟨_, _, pre0 _ ?_, hrun, hended, _, _, rfl, ?_, ⟨_, rfl⟩, hW, hsame.mono (by decide) (by decide)⟩
  · skip
    show Steps p.tables e below (s₁.setTop (mkF m 0 #[.val (.int p0), .val (.int p1)] [])) _
    refine XS.iloadN X0.here hx rfl (hb hby d7_0) rfl ?_
    show Steps p.tables e below (s₁.setTop (mkF m 1 #[.val (.int p0), .val (.int p1)] [(.int p0)])) _
    refine XS.iloadN X0.here hx rfl (hb hby d7_1) rfl ?_
    show Steps p.tables e below (s₁.setTop (mkF m 2 #[.val (.int p0), .val (.int p1)] [(.int p1), (.int p0)])) _
    refine XS.aconstNull X0.here hx rfl (hb hby d7_2) ?_
    show Steps p.tables e below (s₁.setTop (mkF m 3 #[.val (.int p0), .val (.int p1)] [.null, (.int p1), (.int p0)])) _
    refine st1 _ ?_
    show Steps p.tables e below (T1.setTop (mkF m 6 #[.val (.int p0), .val (.int p1)] [(.int p0)])) _
    exact retI X1 hx Bd.returns (hb hby d7_6) hr
  · show QR (.int p0) h0 n0 _ T1.heap _
    rw [e1]
    exact ⟨(by first | rfl | simp []), N1, rfl⟩
theorem d6_26 : decode prog_103_method_4_code 26 = .ok (.iload 6, 2) := by decide +kernel
theorem d6_28 : decode prog_103_method_4_code 28 = .ok (.iload 5, 2) := by decide +kernel
theorem d6_30 : decode prog_103_method_4_code 30 = .ok (.if_icmp .ge 62, 3) := by decide +kernel
theorem d6_33 : decode prog_103_method_4_code 33 = .ok (.aload 4, 2) := by decide +kernel
theorem d6_35 : decode prog_103_method_4_code 35 = .ok (.iload 6, 2) := by decide +kernel
theorem d6_37 : decode prog_103_method_4_code 37 = .ok (.aaload, 1) := by decide +kernel
theorem d6_38 : decode prog_103_method_4_code 38 = .ok (.astore 7, 2) := by decide +kernel
theorem os_addT_38 {z0 : Value} {z1 : Value} {z2 : Value} {z4 : Value} {z5 : Value} {z6 : Value} {s7 : Slot} {s8 : Slot} {s9 : Slot} {v : Addr} (h : One s7) : storeLocals #[.val z0, .val z1, .val z2, .second, .val z4, .val z5, .val z6, s7, s8, s9] 7 (.ref v) = some #[.val z0, .val z1, .val z2, .second, .val z4, .val z5, .val z6, .val (.ref v), s8, s9] := by
  rcases h with rfl | ⟨w, rfl, hw⟩
  · rfl
  · cases w <;> first | rfl | (simp [Value.category] at hw)
theorem d6_40 : decode prog_103_method_4_code 40 = .ok (.lload_n 2, 1) := by decide +kernel
theorem d6_41 : decode prog_103_method_4_code 41 = .ok (.bipush 6, 2) := by decide +kernel
theorem d6_43 : decode prog_103_method_4_code 43 = .ok (.lushr, 1) := by decide +kernel
theorem d6_44 : decode prog_103_method_4_code 44 = .ok (.l2i, 1) := by decide +kernel
theorem d6_45 : decode prog_103_method_4_code 45 = .ok (.istore 8, 2) := by decide +kernel
theorem os_addT_45 {z0 : Value} {z1 : Value} {z2 : Value} {z4 : Value} {z5 : Value} {z6 : Value} {z7 : Value} {s8 : Slot} {s9 : Slot} {v : Int32} (h : One s8) : storeLocals #[.val z0, .val z1, .val z2, .second, .val z4, .val z5, .val z6, .val z7, s8, s9] 8 (.int v) = some #[.val z0, .val z1, .val z2, .second, .val z4, .val z5, .val z6, .val z7, .val (.int v), s9] := by
  rcases h with rfl | ⟨w, rfl, hw⟩
  · rfl
  · cases w <;> first | rfl | (simp [Value.category] at hw)
theorem d6_47 : decode prog_103_method_4_code 47 = .ok (.aload 7, 2) := by decide +kernel
theorem d6_49 : decode prog_103_method_4_code 49 = .ok (.iload 8, 2) := by decide +kernel
theorem d6_51 : decode prog_103_method_4_code 51 = .ok (.laload, 1) := by decide +kernel
theorem d6_52 : decode prog_103_method_4_code 52 = .ok (.lconst 0, 1) := by decide +kernel
theorem d6_53 : decode prog_103_method_4_code 53 = .ok (.lcmp, 1) := by decide +kernel
theorem d6_54 : decode prog_103_method_4_code 54 = .ok (.ifCond .ne 7, 3) := by decide +kernel
theorem d6_57 : decode prog_103_method_4_code 57 = .ok (.iconst 1, 1) := by decide +kernel
theorem d6_58 : decode prog_103_method_4_code 58 = .ok (.goto 4, 3) := by decide +kernel
theorem d6_62 : decode prog_103_method_4_code 62 = .ok (.istore 9, 2) := by decide +kernel
theorem os_addT_62 {z0 : Value} {z1 : Value} {z2 : Value} {z4 : Value} {z5 : Value} {z6 : Value} {z7 : Value} {z8 : Value} {s9 : Slot} {v : Int32} (h : One s9) : storeLocals #[.val z0, .val z1, .val z2, .second, .val z4, .val z5, .val z6, .val z7, .val z8, s9] 9 (.int v) = some #[.val z0, .val z1, .val z2, .second, .val z4, .val z5, .val z6, .val z7, .val z8, .val (.int v)] := by
  rcases h with rfl | ⟨w, rfl, hw⟩
  · rfl
  · cases w <;> first | rfl | (simp [Value.category] at hw)
theorem d6_64 : decode prog_103_method_4_code 64 = .ok (.aload 7, 2) := by decide +kernel
theorem d6_66 : decode prog_103_method_4_code 66 = .ok (.iload 8, 2) := by decide +kernel
theorem d6_68 : decode prog_103_method_4_code 68 = .ok (.dup2, 1) := by decide +kernel
theorem d6_69 : decode prog_103_method_4_code 69 = .ok (.laload, 1) := by decide +kernel
theorem d6_70 : decode prog_103_method_4_code 70 = .ok (.lconst 1, 1) := by decide +kernel
theorem d6_71 : decode prog_103_method_4_code 71 = .ok (.lload_n 2, 1) := by decide +kernel
theorem d6_72 : decode prog_103_method_4_code 72 = .ok (.l2i, 1) := by decide +kernel
theorem d6_73 : decode prog_103_method_4_code 73 = .ok (.lshl, 1) := by decide +kernel
theorem d6_74 : decode prog_103_method_4_code 74 = .ok (.lor, 1) := by decide +kernel
theorem d6_75 : decode prog_103_method_4_code 75 = .ok (.lastore, 1) := by decide +kernel
theorem d6_76 : decode prog_103_method_4_code 76 = .ok (.iload 9, 2) := by decide +kernel
theorem d6_78 : decode prog_103_method_4_code 78 = .ok (.ifCond .ne 4, 3) := by decide +kernel
theorem d6_82 : decode prog_103_method_4_code 82 = .ok (.iload 8, 2) := by decide +kernel
theorem d6_84 : decode prog_103_method_4_code 84 = .ok (.i2l, 1) := by decide +kernel
theorem d6_85 : decode prog_103_method_4_code 85 = .ok (.lstore_n 2, 1) := by decide +kernel
theorem d6_86 : decode prog_103_method_4_code 86 = .ok (.iinc 6 1, 3) := by decide +kernel
theorem d6_89 : decode prog_103_method_4_code 89 = .ok (.goto (-63), 3) := by decide +kernel
theorem d6_61 : decode prog_103_method_4_code 61 = .ok (.iconst 0, 1) := by decide +kernel
set_option maxRecDepth 65536 in
set_option maxHeartbeats 40000000 in
theorem addT {p : Program} {l : Launch} {e : Env} {R : Room} {s : State} {m : MethodId} {args : Array Value} {below : List Frame} {meth : Method} {c : Code} {T0 : State} {locs : List Loc} {cells slots : Nat} {Z : State} {a0 : Array Value} {h0 : Heap} (n0 : Nat) (S LV : Addr) (kV : ClassId) (D : Nat) (xs : Nat → Addr) (ks : Nat → ClassId) (N : Nat → Nat) (f : Nat → Nat → Int64) (sI : Int32) (af : Int64) (i v lev : Nat) (s7 s8 s9 : Slot) (X0 : Stand p l e R s m args below meth c T0 locs cells slots) (hx : p.tables.exec = Jvm.exec) (hZ : Z.Warmed39 s.vm) (hw : ∀ d ∈ tables_1, d.before a0 Z = true) (hby : c.code = prog_103_method_4_code) (hml : c.maxLocals = 10) (hown : s.vm.findClass "com/example/halfword/halfword/verify/RoundRobinSet" = some m.cls) (e0 : T0.heap = h0) (hs7 : One s7) (hs8 : One s8) (hs9 : One s9) (R_s : RS Z h0 n0 S LV kV D xs ks N f sI af) (hl : lev < D) (hD : D ≤ 4) (hv : v ≤ 1048577) (hk : v / 64 < N lev) (hN : N lev ≤ 16384) :
    ∃ (T' : State) (h' : Heap) (w : Int64), Stand p l e R s m args below meth c T' (locs ++ [⟨xs lev, (Int32.ofNat (v / 64)).toNatClampNeg⟩]) cells slots ∧ T'.heap = h' ∧ RS Z h' n0 S LV kV D xs ks N (up2 f lev (v / 64) w) sI af ∧ (∀ b, b < 64 → (bit w b ↔ bit (f lev (v / 64)) b ∨ b = v % 64)) ∧ ((f lev (v / 64) ≠ 0 ∧ ∃ Ls, ∀ target, Steps p.tables e below (T'.setTop (mkF m 81 Ls [])) target → Steps p.tables e below (T0.setTop (mkF m 26 #[.val (.ref S), .val (.int (Int32.ofNat i)), .val (.long (Int64.ofNat v)), .second, .val (.ref LV), .val (.int (Int32.ofNat D)), .val (.int (Int32.ofNat lev)), s7, s8, s9] [])) target) ∨ (f lev (v / 64) = 0 ∧ ∃ as7 as8 as9 : Slot, One as7 ∧ One as8 ∧ One as9 ∧ ∀ target, Steps p.tables e below (T'.setTop (mkF m 26 #[.val (.ref S), .val (.int (Int32.ofNat i)), .val (.long (Int64.ofNat (v / 64))), .second, .val (.ref LV), .val (.int (Int32.ofNat D)), .val (.int (Int32.ofNat (lev + 1))), as7, as8, as9] [])) target → Steps p.tables e below (T0.setTop (mkF m 26 #[.val (.ref S), .val (.int (Int32.ofNat i)), .val (.long (Int64.ofNat v)), .second, .val (.ref LV), .val (.int (Int32.ofNat D)), .val (.int (Int32.ofNat lev)), s7, s8, s9] [])) target)) := by
  have pre0 : ∀ t, Steps p.tables e below (T0.setTop (mkF m 26 #[.val (.ref S), .val (.int (Int32.ofNat i)), .val (.long (Int64.ofNat v)), .second, .val (.ref LV), .val (.int (Int32.ofNat D)), .val (.int (Int32.ofNat lev)), s7, s8, s9] [])) t → Steps p.tables e below (T0.setTop (mkF m 26 #[.val (.ref S), .val (.int (Int32.ofNat i)), .val (.long (Int64.ofNat v)), .second, .val (.ref LV), .val (.int (Int32.ofNat D)), .val (.int (Int32.ofNat lev)), s7, s8, s9] [])) t := fun _ k => k
  obtain ⟨cl1, Ar1, qa1, Sa1, Ha1⟩ := id R_s.lv
  have hin1 : ¬ ((Int32.ofNat lev) < 0 ∨ cl1.slots.size ≤ (Int32.ofNat lev).toNatClampNeg) := own_inb Sa1 hl (show D < 2147483648 by omega)
  have hat1 : cl1.slots[(Int32.ofNat lev).toNatClampNeg]? = some (.ref (xs lev)) := by rw [own_cl (Nat.lt_trans hl (show D < 2147483648 by omega))]; exact Ha1 lev hl
  obtain ⟨cl2, Ar2, qa2, Sa2, Ha2⟩ := id (R_s.la lev hl)
  have hin2 : ¬ ((Int32.ofNat (v / 64)) < 0 ∨ cl2.slots.size ≤ (Int32.ofNat (v / 64)).toNatClampNeg) := own_inb Sa2 hk (show N lev < 2147483648 by omega)
  have hat2 : cl2.slots[(Int32.ofNat (v / 64)).toNatClampNeg]? = some (.long (f lev (v / 64))) := by rw [own_cl (Nat.lt_trans hk (show N lev < 2147483648 by omega))]; exact Ha2 _ hk
  have pre3 : ∀ t, Steps p.tables e below (T0.setTop (mkF m 54 #[.val (.ref S), .val (.int (Int32.ofNat i)), .val (.long (Int64.ofNat v)), .second, .val (.ref LV), .val (.int (Int32.ofNat D)), .val (.int (Int32.ofNat lev)), .val (.ref (xs lev)), .val (.int (Int32.ofNat (v / 64))), s9] [(.int (lcmpW (f lev (v / 64)) (0 : Int64)))])) t → Steps p.tables e below (T0.setTop (mkF m 26 #[.val (.ref S), .val (.int (Int32.ofNat i)), .val (.long (Int64.ofNat v)), .second, .val (.ref LV), .val (.int (Int32.ofNat D)), .val (.int (Int32.ofNat lev)), s7, s8, s9] [])) t := by
    intro t kt
    refine pre0 t ?_
    show Steps p.tables e below (T0.setTop (mkF m 26 #[.val (.ref S), .val (.int (Int32.ofNat i)), .val (.long (Int64.ofNat v)), .second, .val (.ref LV), .val (.int (Int32.ofNat D)), .val (.int (Int32.ofNat lev)), s7, s8, s9] [])) _
    refine XS.iload X0.here hx rfl (hb hby d6_26) rfl ?_
    show Steps p.tables e below (T0.setTop (mkF m 28 #[.val (.ref S), .val (.int (Int32.ofNat i)), .val (.long (Int64.ofNat v)), .second, .val (.ref LV), .val (.int (Int32.ofNat D)), .val (.int (Int32.ofNat lev)), s7, s8, s9] [(.int (Int32.ofNat lev))])) _
    refine XS.iload X0.here hx rfl (hb hby d6_28) rfl ?_
    show Steps p.tables e below (T0.setTop (mkF m 30 #[.val (.ref S), .val (.int (Int32.ofNat i)), .val (.long (Int64.ofNat v)), .second, .val (.ref LV), .val (.int (Int32.ofNat D)), .val (.int (Int32.ofNat lev)), s7, s8, s9] [(.int (Int32.ofNat D)), (.int (Int32.ofNat lev))])) _
    refine XS.icmpNo X0.here hx rfl (hb hby d6_30) rfl (tlt ((own_ltI (by omega) (by omega)).mpr hl)).2.1 ?_
    show Steps p.tables e below (T0.setTop (mkF m 33 #[.val (.ref S), .val (.int (Int32.ofNat i)), .val (.long (Int64.ofNat v)), .second, .val (.ref LV), .val (.int (Int32.ofNat D)), .val (.int (Int32.ofNat lev)), s7, s8, s9] [])) _
    refine XS.aload X0.here hx rfl (hb hby d6_33) rfl rfl ?_
    show Steps p.tables e below (T0.setTop (mkF m 35 #[.val (.ref S), .val (.int (Int32.ofNat i)), .val (.long (Int64.ofNat v)), .second, .val (.ref LV), .val (.int (Int32.ofNat D)), .val (.int (Int32.ofNat lev)), s7, s8, s9] [(.ref LV)])) _
    refine XS.iload X0.here hx rfl (hb hby d6_35) rfl ?_
    show Steps p.tables e below (T0.setTop (mkF m 37 #[.val (.ref S), .val (.int (Int32.ofNat i)), .val (.long (Int64.ofNat v)), .second, .val (.ref LV), .val (.int (Int32.ofNat D)), .val (.int (Int32.ofNat lev)), s7, s8, s9] [(.int (Int32.ofNat lev)), (.ref LV)])) _
    refine X0.aaload hx (j := (Int32.ofNat lev)) (v := (.ref (xs lev))) (by rw [e0]; exact Ar1.1) (State.isArrayOf_alike hZ.alike Ar1.2.1) rfl Ar1.2.2 hin1 hat1 (g := (mkF m 37 #[.val (.ref S), .val (.int (Int32.ofNat i)), .val (.long (Int64.ofNat v)), .second, .val (.ref LV), .val (.int (Int32.ofNat D)), .val (.int (Int32.ofNat lev)), s7, s8, s9] [(.int (Int32.ofNat lev)), (.ref LV)])) rfl rfl (hb hby d6_37) _ ?_
    show Steps p.tables e below (T0.setTop (mkF m 38 #[.val (.ref S), .val (.int (Int32.ofNat i)), .val (.long (Int64.ofNat v)), .second, .val (.ref LV), .val (.int (Int32.ofNat D)), .val (.int (Int32.ofNat lev)), s7, s8, s9] [(.ref (xs lev))])) _
    refine XS.astore X0.here hx rfl (hb hby d6_38) rfl rfl (l' := #[.val (.ref S), .val (.int (Int32.ofNat i)), .val (.long (Int64.ofNat v)), .second, .val (.ref LV), .val (.int (Int32.ofNat D)), .val (.int (Int32.ofNat lev)), .val (.ref (xs lev)), s8, s9]) (os_addT_38 hs7) ?_
    show Steps p.tables e below (T0.setTop (mkF m 40 #[.val (.ref S), .val (.int (Int32.ofNat i)), .val (.long (Int64.ofNat v)), .second, .val (.ref LV), .val (.int (Int32.ofNat D)), .val (.int (Int32.ofNat lev)), .val (.ref (xs lev)), s8, s9] [])) _
    refine XS.lloadN X0.here hx rfl (hb hby d6_40) rfl ?_
    show Steps p.tables e below (T0.setTop (mkF m 41 #[.val (.ref S), .val (.int (Int32.ofNat i)), .val (.long (Int64.ofNat v)), .second, .val (.ref LV), .val (.int (Int32.ofNat D)), .val (.int (Int32.ofNat lev)), .val (.ref (xs lev)), s8, s9] [(.long (Int64.ofNat v))])) _
    refine XS.bipush X0.here hx rfl (hb hby d6_41) ?_
    show Steps p.tables e below (T0.setTop (mkF m 43 #[.val (.ref S), .val (.int (Int32.ofNat i)), .val (.long (Int64.ofNat v)), .second, .val (.ref LV), .val (.int (Int32.ofNat D)), .val (.int (Int32.ofNat lev)), .val (.ref (xs lev)), s8, s9] [(.int (6 : Int32)), (.long (Int64.ofNat v))])) _
    refine XS.lushr X0.here hx rfl (hb hby d6_43) rfl ?_
    show Steps p.tables e below (T0.setTop (mkF m 44 #[.val (.ref S), .val (.int (Int32.ofNat i)), .val (.long (Int64.ofNat v)), .second, .val (.ref LV), .val (.int (Int32.ofNat D)), .val (.int (Int32.ofNat lev)), .val (.ref (xs lev)), s8, s9] [(.long (((Int64.ofNat v).toUInt64 >>> ((6 : Int32) &&& 0x3f).toInt64.toUInt64).toInt64))])) _
    refine XS.l2i X0.here hx rfl (hb hby d6_44) rfl ?_
    show Steps p.tables e below (T0.setTop (mkF m 45 #[.val (.ref S), .val (.int (Int32.ofNat i)), .val (.long (Int64.ofNat v)), .second, .val (.ref LV), .val (.int (Int32.ofNat D)), .val (.int (Int32.ofNat lev)), .val (.ref (xs lev)), s8, s9] [(.int ((((Int64.ofNat v).toUInt64 >>> ((6 : Int32) &&& 0x3f).toInt64.toUInt64).toInt64).toInt32))])) _
    rw [own_ush6 (i := v) (by omega), own_l2i (i := v / 64) (by omega)]
    show Steps p.tables e below (T0.setTop (mkF m 45 #[.val (.ref S), .val (.int (Int32.ofNat i)), .val (.long (Int64.ofNat v)), .second, .val (.ref LV), .val (.int (Int32.ofNat D)), .val (.int (Int32.ofNat lev)), .val (.ref (xs lev)), s8, s9] [(.int (Int32.ofNat (v / 64)))])) _
    refine XS.istore X0.here hx rfl (hb hby d6_45) rfl (l' := #[.val (.ref S), .val (.int (Int32.ofNat i)), .val (.long (Int64.ofNat v)), .second, .val (.ref LV), .val (.int (Int32.ofNat D)), .val (.int (Int32.ofNat lev)), .val (.ref (xs lev)), .val (.int (Int32.ofNat (v / 64))), s9]) (os_addT_45 hs8) ?_
    show Steps p.tables e below (T0.setTop (mkF m 47 #[.val (.ref S), .val (.int (Int32.ofNat i)), .val (.long (Int64.ofNat v)), .second, .val (.ref LV), .val (.int (Int32.ofNat D)), .val (.int (Int32.ofNat lev)), .val (.ref (xs lev)), .val (.int (Int32.ofNat (v / 64))), s9] [])) _
    refine XS.aload X0.here hx rfl (hb hby d6_47) rfl rfl ?_
    show Steps p.tables e below (T0.setTop (mkF m 49 #[.val (.ref S), .val (.int (Int32.ofNat i)), .val (.long (Int64.ofNat v)), .second, .val (.ref LV), .val (.int (Int32.ofNat D)), .val (.int (Int32.ofNat lev)), .val (.ref (xs lev)), .val (.int (Int32.ofNat (v / 64))), s9] [(.ref (xs lev))])) _
    refine XS.iload X0.here hx rfl (hb hby d6_49) rfl ?_
    show Steps p.tables e below (T0.setTop (mkF m 51 #[.val (.ref S), .val (.int (Int32.ofNat i)), .val (.long (Int64.ofNat v)), .second, .val (.ref LV), .val (.int (Int32.ofNat D)), .val (.int (Int32.ofNat lev)), .val (.ref (xs lev)), .val (.int (Int32.ofNat (v / 64))), s9] [(.int (Int32.ofNat (v / 64))), (.ref (xs lev))])) _
    refine X0.laload hx (j := (Int32.ofNat (v / 64))) (v := (.long (f lev (v / 64)))) (by rw [e0]; exact Ar2.1) (State.isArrayOf_alike hZ.alike Ar2.2.1) Ar2.2.2 hin2 hat2 (g := (mkF m 51 #[.val (.ref S), .val (.int (Int32.ofNat i)), .val (.long (Int64.ofNat v)), .second, .val (.ref LV), .val (.int (Int32.ofNat D)), .val (.int (Int32.ofNat lev)), .val (.ref (xs lev)), .val (.int (Int32.ofNat (v / 64))), s9] [(.int (Int32.ofNat (v / 64))), (.ref (xs lev))])) rfl rfl (hb hby d6_51) _ ?_
    show Steps p.tables e below (T0.setTop (mkF m 52 #[.val (.ref S), .val (.int (Int32.ofNat i)), .val (.long (Int64.ofNat v)), .second, .val (.ref LV), .val (.int (Int32.ofNat D)), .val (.int (Int32.ofNat lev)), .val (.ref (xs lev)), .val (.int (Int32.ofNat (v / 64))), s9] [(.long (f lev (v / 64)))])) _
    refine XS.lconst X0.here hx rfl (hb hby d6_52) ?_
    show Steps p.tables e below (T0.setTop (mkF m 53 #[.val (.ref S), .val (.int (Int32.ofNat i)), .val (.long (Int64.ofNat v)), .second, .val (.ref LV), .val (.int (Int32.ofNat D)), .val (.int (Int32.ofNat lev)), .val (.ref (xs lev)), .val (.int (Int32.ofNat (v / 64))), s9] [(.long (0 : Int64)), (.long (f lev (v / 64)))])) _
    refine XS.lcmp X0.here hx rfl (hb hby d6_53) rfl ?_
    exact kt
  by_cases hc4 : (lcmpW (f lev (v / 64)) (0 : Int64)) = (0 : Int32)
  · skip
    have hc4' : (f lev (v / 64)) = (0 : Int64) := (own_lc0 _ _).mp hc4
    obtain ⟨cl5, Ar5, qa5, Sa5, Ha5⟩ := id (R_s.la lev hl)
    have hin5 : ¬ ((Int32.ofNat (v / 64)) < 0 ∨ cl5.slots.size ≤ (Int32.ofNat (v / 64)).toNatClampNeg) := own_inb Sa5 hk (show N lev < 2147483648 by omega)
    have hat5 : cl5.slots[(Int32.ofNat (v / 64)).toNatClampNeg]? = some (.long (f lev (v / 64))) := by rw [own_cl (Nat.lt_trans hk (show N lev < 2147483648 by omega))]; exact Ha5 _ hk
    obtain ⟨cl6, Ar6, qa6, Sa6, Ha6⟩ := id (R_s.la lev hl)
    have hin6 : ¬ ((Int32.ofNat (v / 64)) < 0 ∨ cl6.slots.size ≤ (Int32.ofNat (v / 64)).toNatClampNeg) := own_inb Sa6 hk (show N lev < 2147483648 by omega)
    obtain ⟨T7, h7, X7, e7, W7, st7⟩ := stJ X0 hx hZ e0 Ar6 (j := (Int32.ofNat (v / 64))) hin6 (g := (mkF m 75 #[.val (.ref S), .val (.int (Int32.ofNat i)), .val (.long (Int64.ofNat v)), .second, .val (.ref LV), .val (.int (Int32.ofNat D)), .val (.int (Int32.ofNat lev)), .val (.ref (xs lev)), .val (.int (Int32.ofNat (v / 64))), .val (.int (1 : Int32))] [(.long ((f lev (v / 64)) ||| ((1 : Int64) <<< ((Int32.ofNat v) &&& 0x3f).toInt64))), (.int (Int32.ofNat (v / 64))), (.ref (xs lev))])) rfl rfl (hb hby d6_75)
    have R_w7 := R_s.word hl (show v / 64 < 2147483648 by omega) W7
    have pre8 : ∀ t, Steps p.tables e below (T7.setTop (mkF m 26 #[.val (.ref S), .val (.int (Int32.ofNat i)), .val (.long ((Int32.ofNat (v / 64)).toInt64)), .second, .val (.ref LV), .val (.int (Int32.ofNat D)), .val (.int ((Int32.ofNat lev) + (1 : Int32))), .val (.ref (xs lev)), .val (.int (Int32.ofNat (v / 64))), .val (.int (1 : Int32))] [])) t → Steps p.tables e below (T0.setTop (mkF m 26 #[.val (.ref S), .val (.int (Int32.ofNat i)), .val (.long (Int64.ofNat v)), .second, .val (.ref LV), .val (.int (Int32.ofNat D)), .val (.int (Int32.ofNat lev)), s7, s8, s9] [])) t := by
      intro t kt
      refine pre3 t ?_
      show Steps p.tables e below (T0.setTop (mkF m 54 #[.val (.ref S), .val (.int (Int32.ofNat i)), .val (.long (Int64.ofNat v)), .second, .val (.ref LV), .val (.int (Int32.ofNat D)), .val (.int (Int32.ofNat lev)), .val (.ref (xs lev)), .val (.int (Int32.ofNat (v / 64))), s9] [(.int (lcmpW (f lev (v / 64)) (0 : Int64)))])) _
      refine XS.ifNo X0.here hx rfl (hb hby d6_54) rfl ((if0 _ _).trans (teq hc4).2) ?_
      show Steps p.tables e below (T0.setTop (mkF m 57 #[.val (.ref S), .val (.int (Int32.ofNat i)), .val (.long (Int64.ofNat v)), .second, .val (.ref LV), .val (.int (Int32.ofNat D)), .val (.int (Int32.ofNat lev)), .val (.ref (xs lev)), .val (.int (Int32.ofNat (v / 64))), s9] [])) _
      refine XS.iconst X0.here hx rfl (hb hby d6_57) ?_
      show Steps p.tables e below (T0.setTop (mkF m 58 #[.val (.ref S), .val (.int (Int32.ofNat i)), .val (.long (Int64.ofNat v)), .second, .val (.ref LV), .val (.int (Int32.ofNat D)), .val (.int (Int32.ofNat lev)), .val (.ref (xs lev)), .val (.int (Int32.ofNat (v / 64))), s9] [(.int (1 : Int32))])) _
      refine XS.goto X0.here hx rfl (pc0 := 58) (pc' := 62) rfl (hb hby d6_58) (by decide) (by decide) ?_
      show Steps p.tables e below (T0.setTop (mkF m 62 #[.val (.ref S), .val (.int (Int32.ofNat i)), .val (.long (Int64.ofNat v)), .second, .val (.ref LV), .val (.int (Int32.ofNat D)), .val (.int (Int32.ofNat lev)), .val (.ref (xs lev)), .val (.int (Int32.ofNat (v / 64))), s9] [(.int (1 : Int32))])) _
      refine XS.istore X0.here hx rfl (hb hby d6_62) rfl (l' := #[.val (.ref S), .val (.int (Int32.ofNat i)), .val (.long (Int64.ofNat v)), .second, .val (.ref LV), .val (.int (Int32.ofNat D)), .val (.int (Int32.ofNat lev)), .val (.ref (xs lev)), .val (.int (Int32.ofNat (v / 64))), .val (.int (1 : Int32))]) (os_addT_62 hs9) ?_
      show Steps p.tables e below (T0.setTop (mkF m 64 #[.val (.ref S), .val (.int (Int32.ofNat i)), .val (.long (Int64.ofNat v)), .second, .val (.ref LV), .val (.int (Int32.ofNat D)), .val (.int (Int32.ofNat lev)), .val (.ref (xs lev)), .val (.int (Int32.ofNat (v / 64))), .val (.int (1 : Int32))] [])) _
      refine XS.aload X0.here hx rfl (hb hby d6_64) rfl rfl ?_
      show Steps p.tables e below (T0.setTop (mkF m 66 #[.val (.ref S), .val (.int (Int32.ofNat i)), .val (.long (Int64.ofNat v)), .second, .val (.ref LV), .val (.int (Int32.ofNat D)), .val (.int (Int32.ofNat lev)), .val (.ref (xs lev)), .val (.int (Int32.ofNat (v / 64))), .val (.int (1 : Int32))] [(.ref (xs lev))])) _
      refine XS.iload X0.here hx rfl (hb hby d6_66) rfl ?_
      show Steps p.tables e below (T0.setTop (mkF m 68 #[.val (.ref S), .val (.int (Int32.ofNat i)), .val (.long (Int64.ofNat v)), .second, .val (.ref LV), .val (.int (Int32.ofNat D)), .val (.int (Int32.ofNat lev)), .val (.ref (xs lev)), .val (.int (Int32.ofNat (v / 64))), .val (.int (1 : Int32))] [(.int (Int32.ofNat (v / 64))), (.ref (xs lev))])) _
      jvm_step X0.here [X0.here.top, hx, (hb hby d6_68), Value.category]
      show Steps p.tables e below (T0.setTop (mkF m 69 #[.val (.ref S), .val (.int (Int32.ofNat i)), .val (.long (Int64.ofNat v)), .second, .val (.ref LV), .val (.int (Int32.ofNat D)), .val (.int (Int32.ofNat lev)), .val (.ref (xs lev)), .val (.int (Int32.ofNat (v / 64))), .val (.int (1 : Int32))] [(.int (Int32.ofNat (v / 64))), (.ref (xs lev)), (.int (Int32.ofNat (v / 64))), (.ref (xs lev))])) _
      refine X0.laload hx (j := (Int32.ofNat (v / 64))) (v := (.long (f lev (v / 64)))) (by rw [e0]; exact Ar5.1) (State.isArrayOf_alike hZ.alike Ar5.2.1) Ar5.2.2 hin5 hat5 (g := (mkF m 69 #[.val (.ref S), .val (.int (Int32.ofNat i)), .val (.long (Int64.ofNat v)), .second, .val (.ref LV), .val (.int (Int32.ofNat D)), .val (.int (Int32.ofNat lev)), .val (.ref (xs lev)), .val (.int (Int32.ofNat (v / 64))), .val (.int (1 : Int32))] [(.int (Int32.ofNat (v / 64))), (.ref (xs lev)), (.int (Int32.ofNat (v / 64))), (.ref (xs lev))])) rfl rfl (hb hby d6_69) _ ?_
      show Steps p.tables e below (T0.setTop (mkF m 70 #[.val (.ref S), .val (.int (Int32.ofNat i)), .val (.long (Int64.ofNat v)), .second, .val (.ref LV), .val (.int (Int32.ofNat D)), .val (.int (Int32.ofNat lev)), .val (.ref (xs lev)), .val (.int (Int32.ofNat (v / 64))), .val (.int (1 : Int32))] [(.long (f lev (v / 64))), (.int (Int32.ofNat (v / 64))), (.ref (xs lev))])) _
      refine XS.lconst X0.here hx rfl (hb hby d6_70) ?_
      show Steps p.tables e below (T0.setTop (mkF m 71 #[.val (.ref S), .val (.int (Int32.ofNat i)), .val (.long (Int64.ofNat v)), .second, .val (.ref LV), .val (.int (Int32.ofNat D)), .val (.int (Int32.ofNat lev)), .val (.ref (xs lev)), .val (.int (Int32.ofNat (v / 64))), .val (.int (1 : Int32))] [(.long (1 : Int64)), (.long (f lev (v / 64))), (.int (Int32.ofNat (v / 64))), (.ref (xs lev))])) _
      refine XS.lloadN X0.here hx rfl (hb hby d6_71) rfl ?_
      show Steps p.tables e below (T0.setTop (mkF m 72 #[.val (.ref S), .val (.int (Int32.ofNat i)), .val (.long (Int64.ofNat v)), .second, .val (.ref LV), .val (.int (Int32.ofNat D)), .val (.int (Int32.ofNat lev)), .val (.ref (xs lev)), .val (.int (Int32.ofNat (v / 64))), .val (.int (1 : Int32))] [(.long (Int64.ofNat v)), (.long (1 : Int64)), (.long (f lev (v / 64))), (.int (Int32.ofNat (v / 64))), (.ref (xs lev))])) _
      refine XS.l2i X0.here hx rfl (hb hby d6_72) rfl ?_
      show Steps p.tables e below (T0.setTop (mkF m 73 #[.val (.ref S), .val (.int (Int32.ofNat i)), .val (.long (Int64.ofNat v)), .second, .val (.ref LV), .val (.int (Int32.ofNat D)), .val (.int (Int32.ofNat lev)), .val (.ref (xs lev)), .val (.int (Int32.ofNat (v / 64))), .val (.int (1 : Int32))] [(.int ((Int64.ofNat v).toInt32)), (.long (1 : Int64)), (.long (f lev (v / 64))), (.int (Int32.ofNat (v / 64))), (.ref (xs lev))])) _
      rw [own_l2i (i := v) (by omega)]
      show Steps p.tables e below (T0.setTop (mkF m 73 #[.val (.ref S), .val (.int (Int32.ofNat i)), .val (.long (Int64.ofNat v)), .second, .val (.ref LV), .val (.int (Int32.ofNat D)), .val (.int (Int32.ofNat lev)), .val (.ref (xs lev)), .val (.int (Int32.ofNat (v / 64))), .val (.int (1 : Int32))] [(.int (Int32.ofNat v)), (.long (1 : Int64)), (.long (f lev (v / 64))), (.int (Int32.ofNat (v / 64))), (.ref (xs lev))])) _
      refine XS.lshl X0.here hx rfl (hb hby d6_73) rfl ?_
      show Steps p.tables e below (T0.setTop (mkF m 74 #[.val (.ref S), .val (.int (Int32.ofNat i)), .val (.long (Int64.ofNat v)), .second, .val (.ref LV), .val (.int (Int32.ofNat D)), .val (.int (Int32.ofNat lev)), .val (.ref (xs lev)), .val (.int (Int32.ofNat (v / 64))), .val (.int (1 : Int32))] [(.long ((1 : Int64) <<< ((Int32.ofNat v) &&& 0x3f).toInt64)), (.long (f lev (v / 64))), (.int (Int32.ofNat (v / 64))), (.ref (xs lev))])) _
      refine XS.lor X0.here hx rfl (hb hby d6_74) rfl ?_
      show Steps p.tables e below (T0.setTop (mkF m 75 #[.val (.ref S), .val (.int (Int32.ofNat i)), .val (.long (Int64.ofNat v)), .second, .val (.ref LV), .val (.int (Int32.ofNat D)), .val (.int (Int32.ofNat lev)), .val (.ref (xs lev)), .val (.int (Int32.ofNat (v / 64))), .val (.int (1 : Int32))] [(.long ((f lev (v / 64)) ||| ((1 : Int64) <<< ((Int32.ofNat v) &&& 0x3f).toInt64))), (.int (Int32.ofNat (v / 64))), (.ref (xs lev))])) _
      refine st7 _ ?_
      show Steps p.tables e below (T7.setTop (mkF m 76 #[.val (.ref S), .val (.int (Int32.ofNat i)), .val (.long (Int64.ofNat v)), .second, .val (.ref LV), .val (.int (Int32.ofNat D)), .val (.int (Int32.ofNat lev)), .val (.ref (xs lev)), .val (.int (Int32.ofNat (v / 64))), .val (.int (1 : Int32))] [])) _
      refine XS.iload X7.here hx rfl (hb hby d6_76) rfl ?_
      show Steps p.tables e below (T7.setTop (mkF m 78 #[.val (.ref S), .val (.int (Int32.ofNat i)), .val (.long (Int64.ofNat v)), .second, .val (.ref LV), .val (.int (Int32.ofNat D)), .val (.int (Int32.ofNat lev)), .val (.ref (xs lev)), .val (.int (Int32.ofNat (v / 64))), .val (.int (1 : Int32))] [(.int (1 : Int32))])) _
      refine XS.ifYes X7.here hx rfl (pc0 := 78) (pc' := 82) rfl (hb hby d6_78) rfl ((if0 _ _).trans (feq (by decide : ¬ ((1 : Int32) = (0 : Int32)))).2) (by decide) (by decide) ?_
      show Steps p.tables e below (T7.setTop (mkF m 82 #[.val (.ref S), .val (.int (Int32.ofNat i)), .val (.long (Int64.ofNat v)), .second, .val (.ref LV), .val (.int (Int32.ofNat D)), .val (.int (Int32.ofNat lev)), .val (.ref (xs lev)), .val (.int (Int32.ofNat (v / 64))), .val (.int (1 : Int32))] [])) _
      refine XS.iload X7.here hx rfl (hb hby d6_82) rfl ?_
      show Steps p.tables e below (T7.setTop (mkF m 84 #[.val (.ref S), .val (.int (Int32.ofNat i)), .val (.long (Int64.ofNat v)), .second, .val (.ref LV), .val (.int (Int32.ofNat D)), .val (.int (Int32.ofNat lev)), .val (.ref (xs lev)), .val (.int (Int32.ofNat (v / 64))), .val (.int (1 : Int32))] [(.int (Int32.ofNat (v / 64)))])) _
      refine XS.i2l X7.here hx rfl (hb hby d6_84) rfl ?_
      show Steps p.tables e below (T7.setTop (mkF m 85 #[.val (.ref S), .val (.int (Int32.ofNat i)), .val (.long (Int64.ofNat v)), .second, .val (.ref LV), .val (.int (Int32.ofNat D)), .val (.int (Int32.ofNat lev)), .val (.ref (xs lev)), .val (.int (Int32.ofNat (v / 64))), .val (.int (1 : Int32))] [(.long ((Int32.ofNat (v / 64)).toInt64))])) _
      refine XS.lstoreN X7.here hx rfl (hb hby d6_85) rfl (l' := #[.val (.ref S), .val (.int (Int32.ofNat i)), .val (.long ((Int32.ofNat (v / 64)).toInt64)), .second, .val (.ref LV), .val (.int (Int32.ofNat D)), .val (.int (Int32.ofNat lev)), .val (.ref (xs lev)), .val (.int (Int32.ofNat (v / 64))), .val (.int (1 : Int32))]) rfl ?_
      show Steps p.tables e below (T7.setTop (mkF m 86 #[.val (.ref S), .val (.int (Int32.ofNat i)), .val (.long ((Int32.ofNat (v / 64)).toInt64)), .second, .val (.ref LV), .val (.int (Int32.ofNat D)), .val (.int (Int32.ofNat lev)), .val (.ref (xs lev)), .val (.int (Int32.ofNat (v / 64))), .val (.int (1 : Int32))] [])) _
      refine XS.iinc X7.here hx rfl (hb hby d6_86) rfl (l' := #[.val (.ref S), .val (.int (Int32.ofNat i)), .val (.long ((Int32.ofNat (v / 64)).toInt64)), .second, .val (.ref LV), .val (.int (Int32.ofNat D)), .val (.int ((Int32.ofNat lev) + (1 : Int32))), .val (.ref (xs lev)), .val (.int (Int32.ofNat (v / 64))), .val (.int (1 : Int32))]) rfl ?_
      show Steps p.tables e below (T7.setTop (mkF m 89 #[.val (.ref S), .val (.int (Int32.ofNat i)), .val (.long ((Int32.ofNat (v / 64)).toInt64)), .second, .val (.ref LV), .val (.int (Int32.ofNat D)), .val (.int ((Int32.ofNat lev) + (1 : Int32))), .val (.ref (xs lev)), .val (.int (Int32.ofNat (v / 64))), .val (.int (1 : Int32))] [])) _
      refine XS.goto X7.here hx rfl (pc0 := 89) (pc' := 26) rfl (hb hby d6_89) (by decide) (by decide) ?_
      exact kt
    exact ⟨T7, h7, _, X7, e7, R_w7, (fun b hb => by rw [own_bit_or, own_bit_one (v := v) (by omega) hb]), Or.inr ⟨hc4', .val (.ref (xs lev)), .val (.int (Int32.ofNat (v / 64))), .val (.int (1 : Int32)), One.val rfl, One.val rfl, One.val rfl, fun target kt => pre8 target (by rw [own_i2l (i := v / 64) (by omega), own_oneI]; exact kt)⟩⟩
  · skip
    have hc4' : ¬ (f lev (v / 64)) = (0 : Int64) := fun q => hc4 ((own_lc0 _ _).mpr q)
    obtain ⟨cl9, Ar9, qa9, Sa9, Ha9⟩ := id (R_s.la lev hl)
    have hin9 : ¬ ((Int32.ofNat (v / 64)) < 0 ∨ cl9.slots.size ≤ (Int32.ofNat (v / 64)).toNatClampNeg) := own_inb Sa9 hk (show N lev < 2147483648 by omega)
    have hat9 : cl9.slots[(Int32.ofNat (v / 64)).toNatClampNeg]? = some (.long (f lev (v / 64))) := by rw [own_cl (Nat.lt_trans hk (show N lev < 2147483648 by omega))]; exact Ha9 _ hk
    obtain ⟨cl10, Ar10, qa10, Sa10, Ha10⟩ := id (R_s.la lev hl)
    have hin10 : ¬ ((Int32.ofNat (v / 64)) < 0 ∨ cl10.slots.size ≤ (Int32.ofNat (v / 64)).toNatClampNeg) := own_inb Sa10 hk (show N lev < 2147483648 by omega)
    obtain ⟨T11, h11, X11, e11, W11, st11⟩ := stJ X0 hx hZ e0 Ar10 (j := (Int32.ofNat (v / 64))) hin10 (g := (mkF m 75 #[.val (.ref S), .val (.int (Int32.ofNat i)), .val (.long (Int64.ofNat v)), .second, .val (.ref LV), .val (.int (Int32.ofNat D)), .val (.int (Int32.ofNat lev)), .val (.ref (xs lev)), .val (.int (Int32.ofNat (v / 64))), .val (.int (0 : Int32))] [(.long ((f lev (v / 64)) ||| ((1 : Int64) <<< ((Int32.ofNat v) &&& 0x3f).toInt64))), (.int (Int32.ofNat (v / 64))), (.ref (xs lev))])) rfl rfl (hb hby d6_75)
    have R_w11 := R_s.word hl (show v / 64 < 2147483648 by omega) W11
    have pre12 : ∀ t, Steps p.tables e below (T11.setTop (mkF m 81 #[.val (.ref S), .val (.int (Int32.ofNat i)), .val (.long (Int64.ofNat v)), .second, .val (.ref LV), .val (.int (Int32.ofNat D)), .val (.int (Int32.ofNat lev)), .val (.ref (xs lev)), .val (.int (Int32.ofNat (v / 64))), .val (.int (0 : Int32))] [])) t → Steps p.tables e below (T0.setTop (mkF m 26 #[.val (.ref S), .val (.int (Int32.ofNat i)), .val (.long (Int64.ofNat v)), .second, .val (.ref LV), .val (.int (Int32.ofNat D)), .val (.int (Int32.ofNat lev)), s7, s8, s9] [])) t := by
      intro t kt
      refine pre3 t ?_
      show Steps p.tables e below (T0.setTop (mkF m 54 #[.val (.ref S), .val (.int (Int32.ofNat i)), .val (.long (Int64.ofNat v)), .second, .val (.ref LV), .val (.int (Int32.ofNat D)), .val (.int (Int32.ofNat lev)), .val (.ref (xs lev)), .val (.int (Int32.ofNat (v / 64))), s9] [(.int (lcmpW (f lev (v / 64)) (0 : Int64)))])) _
      refine XS.ifYes X0.here hx rfl (pc0 := 54) (pc' := 61) rfl (hb hby d6_54) rfl ((if0 _ _).trans (feq hc4).2) (by decide) (by decide) ?_
      show Steps p.tables e below (T0.setTop (mkF m 61 #[.val (.ref S), .val (.int (Int32.ofNat i)), .val (.long (Int64.ofNat v)), .second, .val (.ref LV), .val (.int (Int32.ofNat D)), .val (.int (Int32.ofNat lev)), .val (.ref (xs lev)), .val (.int (Int32.ofNat (v / 64))), s9] [])) _
      refine XS.iconst X0.here hx rfl (hb hby d6_61) ?_
      show Steps p.tables e below (T0.setTop (mkF m 62 #[.val (.ref S), .val (.int (Int32.ofNat i)), .val (.long (Int64.ofNat v)), .second, .val (.ref LV), .val (.int (Int32.ofNat D)), .val (.int (Int32.ofNat lev)), .val (.ref (xs lev)), .val (.int (Int32.ofNat (v / 64))), s9] [(.int (0 : Int32))])) _
      refine XS.istore X0.here hx rfl (hb hby d6_62) rfl (l' := #[.val (.ref S), .val (.int (Int32.ofNat i)), .val (.long (Int64.ofNat v)), .second, .val (.ref LV), .val (.int (Int32.ofNat D)), .val (.int (Int32.ofNat lev)), .val (.ref (xs lev)), .val (.int (Int32.ofNat (v / 64))), .val (.int (0 : Int32))]) (os_addT_62 hs9) ?_
      show Steps p.tables e below (T0.setTop (mkF m 64 #[.val (.ref S), .val (.int (Int32.ofNat i)), .val (.long (Int64.ofNat v)), .second, .val (.ref LV), .val (.int (Int32.ofNat D)), .val (.int (Int32.ofNat lev)), .val (.ref (xs lev)), .val (.int (Int32.ofNat (v / 64))), .val (.int (0 : Int32))] [])) _
      refine XS.aload X0.here hx rfl (hb hby d6_64) rfl rfl ?_
      show Steps p.tables e below (T0.setTop (mkF m 66 #[.val (.ref S), .val (.int (Int32.ofNat i)), .val (.long (Int64.ofNat v)), .second, .val (.ref LV), .val (.int (Int32.ofNat D)), .val (.int (Int32.ofNat lev)), .val (.ref (xs lev)), .val (.int (Int32.ofNat (v / 64))), .val (.int (0 : Int32))] [(.ref (xs lev))])) _
      refine XS.iload X0.here hx rfl (hb hby d6_66) rfl ?_
      show Steps p.tables e below (T0.setTop (mkF m 68 #[.val (.ref S), .val (.int (Int32.ofNat i)), .val (.long (Int64.ofNat v)), .second, .val (.ref LV), .val (.int (Int32.ofNat D)), .val (.int (Int32.ofNat lev)), .val (.ref (xs lev)), .val (.int (Int32.ofNat (v / 64))), .val (.int (0 : Int32))] [(.int (Int32.ofNat (v / 64))), (.ref (xs lev))])) _
      jvm_step X0.here [X0.here.top, hx, (hb hby d6_68), Value.category]
      show Steps p.tables e below (T0.setTop (mkF m 69 #[.val (.ref S), .val (.int (Int32.ofNat i)), .val (.long (Int64.ofNat v)), .second, .val (.ref LV), .val (.int (Int32.ofNat D)), .val (.int (Int32.ofNat lev)), .val (.ref (xs lev)), .val (.int (Int32.ofNat (v / 64))), .val (.int (0 : Int32))] [(.int (Int32.ofNat (v / 64))), (.ref (xs lev)), (.int (Int32.ofNat (v / 64))), (.ref (xs lev))])) _
      refine X0.laload hx (j := (Int32.ofNat (v / 64))) (v := (.long (f lev (v / 64)))) (by rw [e0]; exact Ar9.1) (State.isArrayOf_alike hZ.alike Ar9.2.1) Ar9.2.2 hin9 hat9 (g := (mkF m 69 #[.val (.ref S), .val (.int (Int32.ofNat i)), .val (.long (Int64.ofNat v)), .second, .val (.ref LV), .val (.int (Int32.ofNat D)), .val (.int (Int32.ofNat lev)), .val (.ref (xs lev)), .val (.int (Int32.ofNat (v / 64))), .val (.int (0 : Int32))] [(.int (Int32.ofNat (v / 64))), (.ref (xs lev)), (.int (Int32.ofNat (v / 64))), (.ref (xs lev))])) rfl rfl (hb hby d6_69) _ ?_
      show Steps p.tables e below (T0.setTop (mkF m 70 #[.val (.ref S), .val (.int (Int32.ofNat i)), .val (.long (Int64.ofNat v)), .second, .val (.ref LV), .val (.int (Int32.ofNat D)), .val (.int (Int32.ofNat lev)), .val (.ref (xs lev)), .val (.int (Int32.ofNat (v / 64))), .val (.int (0 : Int32))] [(.long (f lev (v / 64))), (.int (Int32.ofNat (v / 64))), (.ref (xs lev))])) _
      refine XS.lconst X0.here hx rfl (hb hby d6_70) ?_
      show Steps p.tables e below (T0.setTop (mkF m 71 #[.val (.ref S), .val (.int (Int32.ofNat i)), .val (.long (Int64.ofNat v)), .second, .val (.ref LV), .val (.int (Int32.ofNat D)), .val (.int (Int32.ofNat lev)), .val (.ref (xs lev)), .val (.int (Int32.ofNat (v / 64))), .val (.int (0 : Int32))] [(.long (1 : Int64)), (.long (f lev (v / 64))), (.int (Int32.ofNat (v / 64))), (.ref (xs lev))])) _
      refine XS.lloadN X0.here hx rfl (hb hby d6_71) rfl ?_
      show Steps p.tables e below (T0.setTop (mkF m 72 #[.val (.ref S), .val (.int (Int32.ofNat i)), .val (.long (Int64.ofNat v)), .second, .val (.ref LV), .val (.int (Int32.ofNat D)), .val (.int (Int32.ofNat lev)), .val (.ref (xs lev)), .val (.int (Int32.ofNat (v / 64))), .val (.int (0 : Int32))] [(.long (Int64.ofNat v)), (.long (1 : Int64)), (.long (f lev (v / 64))), (.int (Int32.ofNat (v / 64))), (.ref (xs lev))])) _
      refine XS.l2i X0.here hx rfl (hb hby d6_72) rfl ?_
      show Steps p.tables e below (T0.setTop (mkF m 73 #[.val (.ref S), .val (.int (Int32.ofNat i)), .val (.long (Int64.ofNat v)), .second, .val (.ref LV), .val (.int (Int32.ofNat D)), .val (.int (Int32.ofNat lev)), .val (.ref (xs lev)), .val (.int (Int32.ofNat (v / 64))), .val (.int (0 : Int32))] [(.int ((Int64.ofNat v).toInt32)), (.long (1 : Int64)), (.long (f lev (v / 64))), (.int (Int32.ofNat (v / 64))), (.ref (xs lev))])) _
      rw [own_l2i (i := v) (by omega)]
      show Steps p.tables e below (T0.setTop (mkF m 73 #[.val (.ref S), .val (.int (Int32.ofNat i)), .val (.long (Int64.ofNat v)), .second, .val (.ref LV), .val (.int (Int32.ofNat D)), .val (.int (Int32.ofNat lev)), .val (.ref (xs lev)), .val (.int (Int32.ofNat (v / 64))), .val (.int (0 : Int32))] [(.int (Int32.ofNat v)), (.long (1 : Int64)), (.long (f lev (v / 64))), (.int (Int32.ofNat (v / 64))), (.ref (xs lev))])) _
      refine XS.lshl X0.here hx rfl (hb hby d6_73) rfl ?_
      show Steps p.tables e below (T0.setTop (mkF m 74 #[.val (.ref S), .val (.int (Int32.ofNat i)), .val (.long (Int64.ofNat v)), .second, .val (.ref LV), .val (.int (Int32.ofNat D)), .val (.int (Int32.ofNat lev)), .val (.ref (xs lev)), .val (.int (Int32.ofNat (v / 64))), .val (.int (0 : Int32))] [(.long ((1 : Int64) <<< ((Int32.ofNat v) &&& 0x3f).toInt64)), (.long (f lev (v / 64))), (.int (Int32.ofNat (v / 64))), (.ref (xs lev))])) _
      refine XS.lor X0.here hx rfl (hb hby d6_74) rfl ?_
      show Steps p.tables e below (T0.setTop (mkF m 75 #[.val (.ref S), .val (.int (Int32.ofNat i)), .val (.long (Int64.ofNat v)), .second, .val (.ref LV), .val (.int (Int32.ofNat D)), .val (.int (Int32.ofNat lev)), .val (.ref (xs lev)), .val (.int (Int32.ofNat (v / 64))), .val (.int (0 : Int32))] [(.long ((f lev (v / 64)) ||| ((1 : Int64) <<< ((Int32.ofNat v) &&& 0x3f).toInt64))), (.int (Int32.ofNat (v / 64))), (.ref (xs lev))])) _
      refine st11 _ ?_
      show Steps p.tables e below (T11.setTop (mkF m 76 #[.val (.ref S), .val (.int (Int32.ofNat i)), .val (.long (Int64.ofNat v)), .second, .val (.ref LV), .val (.int (Int32.ofNat D)), .val (.int (Int32.ofNat lev)), .val (.ref (xs lev)), .val (.int (Int32.ofNat (v / 64))), .val (.int (0 : Int32))] [])) _
      refine XS.iload X11.here hx rfl (hb hby d6_76) rfl ?_
      show Steps p.tables e below (T11.setTop (mkF m 78 #[.val (.ref S), .val (.int (Int32.ofNat i)), .val (.long (Int64.ofNat v)), .second, .val (.ref LV), .val (.int (Int32.ofNat D)), .val (.int (Int32.ofNat lev)), .val (.ref (xs lev)), .val (.int (Int32.ofNat (v / 64))), .val (.int (0 : Int32))] [(.int (0 : Int32))])) _
      refine XS.ifNo X11.here hx rfl (hb hby d6_78) rfl ((if0 _ _).trans (teq (by decide : (0 : Int32) = (0 : Int32))).2) ?_
      exact kt
    exact ⟨T11, h11, _, X11, e11, R_w11, (fun b hb => by rw [own_bit_or, own_bit_one (v := v) (by omega) hb]), Or.inl ⟨hc4', _, fun target kt => pre12 target kt⟩⟩
set_option maxRecDepth 65536 in
set_option maxHeartbeats 40000000 in
theorem addM {p : Program} {l : Launch} {e : Env} {R : Room} {s : State} {m : MethodId} {args : Array Value} {below : List Frame} {meth : Method} {c : Code} {T0 : State} {locs : List Loc} {cells slots : Nat} {Z : State} {a0 : Array Value} {h0 : Heap} (S LV : Addr) (D i v : Nat) (s7 s8 s9 : Slot) (X0 : Stand p l e R s m args below meth c T0 locs cells slots) (hx : p.tables.exec = Jvm.exec) (hZ : Z.Warmed39 s.vm) (hw : ∀ d ∈ tables_1, d.before a0 Z = true) (hby : c.code = prog_103_method_4_code) (hml : c.maxLocals = 10) (hown : s.vm.findClass "com/example/halfword/halfword/verify/RoundRobinSet" = some m.cls) (e0 : T0.heap = h0) (hD : D ≤ 4) :
    ∃ (T' : State) (Ls : Array Slot), Stand p l e R s m args below meth c T' locs cells slots ∧ T'.heap = h0 ∧ ∀ target, Steps p.tables e below (T'.setTop (mkF m 92 Ls [])) target → Steps p.tables e below (T0.setTop (mkF m 26 #[.val (.ref S), .val (.int (Int32.ofNat i)), .val (.long (Int64.ofNat v)), .second, .val (.ref LV), .val (.int (Int32.ofNat D)), .val (.int (Int32.ofNat D)), s7, s8, s9] [])) target := by
  have pre0 : ∀ t, Steps p.tables e below (T0.setTop (mkF m 26 #[.val (.ref S), .val (.int (Int32.ofNat i)), .val (.long (Int64.ofNat v)), .second, .val (.ref LV), .val (.int (Int32.ofNat D)), .val (.int (Int32.ofNat D)), s7, s8, s9] [])) t → Steps p.tables e below (T0.setTop (mkF m 26 #[.val (.ref S), .val (.int (Int32.ofNat i)), .val (.long (Int64.ofNat v)), .second, .val (.ref LV), .val (.int (Int32.ofNat D)), .val (.int (Int32.ofNat D)), s7, s8, s9] [])) t := fun _ k => k
  have pre1 : ∀ t, Steps p.tables e below (T0.setTop (mkF m 92 #[.val (.ref S), .val (.int (Int32.ofNat i)), .val (.long (Int64.ofNat v)), .second, .val (.ref LV), .val (.int (Int32.ofNat D)), .val (.int (Int32.ofNat D)), s7, s8, s9] [])) t → Steps p.tables e below (T0.setTop (mkF m 26 #[.val (.ref S), .val (.int (Int32.ofNat i)), .val (.long (Int64.ofNat v)), .second, .val (.ref LV), .val (.int (Int32.ofNat D)), .val (.int (Int32.ofNat D)), s7, s8, s9] [])) t := by
    intro t kt
    refine pre0 t ?_
    show Steps p.tables e below (T0.setTop (mkF m 26 #[.val (.ref S), .val (.int (Int32.ofNat i)), .val (.long (Int64.ofNat v)), .second, .val (.ref LV), .val (.int (Int32.ofNat D)), .val (.int (Int32.ofNat D)), s7, s8, s9] [])) _
    refine XS.iload X0.here hx rfl (hb hby d6_26) rfl ?_
    show Steps p.tables e below (T0.setTop (mkF m 28 #[.val (.ref S), .val (.int (Int32.ofNat i)), .val (.long (Int64.ofNat v)), .second, .val (.ref LV), .val (.int (Int32.ofNat D)), .val (.int (Int32.ofNat D)), s7, s8, s9] [(.int (Int32.ofNat D))])) _
    refine XS.iload X0.here hx rfl (hb hby d6_28) rfl ?_
    show Steps p.tables e below (T0.setTop (mkF m 30 #[.val (.ref S), .val (.int (Int32.ofNat i)), .val (.long (Int64.ofNat v)), .second, .val (.ref LV), .val (.int (Int32.ofNat D)), .val (.int (Int32.ofNat D)), s7, s8, s9] [(.int (Int32.ofNat D)), (.int (Int32.ofNat D))])) _
    refine XS.icmpYes X0.here hx rfl (pc0 := 30) (pc' := 92) rfl (hb hby d6_30) rfl (flt (fun q => absurd ((own_ltI (by omega) (by omega)).mp q) (Nat.lt_irrefl D))).2.1 (by decide) (by decide) ?_
    exact kt
  exact ⟨T0, _, X0, e0, fun target kt => pre1 target kt⟩
theorem d6_81 : decode prog_103_method_4_code 81 = .ok (.return_, 1) := by decide +kernel
theorem d6_92 : decode prog_103_method_4_code 92 = .ok (.return_, 1) := by decide +kernel
set_option maxRecDepth 65536 in
set_option maxHeartbeats 40000000 in
theorem addL {p : Program} {l : Launch} {e : Env} {R : Room} {s : State} {m : MethodId} {args : Array Value} {below : List Frame} {meth : Method} {c : Code} {cells slots : Nat} {Z : State} {a0 : Array Value} (n0 : Nat) (S LV : Addr) (kV : ClassId) (D : Nat) (xs : Nat → Addr) (ks : Nat → ClassId) (N : Nat → Nat) (sI : Int32) (af : Int64) (i sz : Nat) (M : Nat → Prop) (hx : p.tables.exec = Jvm.exec) (hZ : Z.Warmed39 s.vm) (hw : ∀ d ∈ tables_1, d.before a0 Z = true) (hby : c.code = prog_103_method_4_code) (hml : c.maxLocals = 10) (hown : s.vm.findClass "com/example/halfword/halfword/verify/RoundRobinSet" = some m.cls) (Sh : Shp sz D N) (hi : i < sz) (hsz : ∀ e, M e → e < sz) :
    ∀ (n lev : Nat) (f : Nat → Nat → Int64) (s7 s8 s9 : Slot) (T0 : State) (locs : List Loc), One s7 → One s8 → One s9 → lev + n = D → Stand p l e R s m args below meth c T0 locs cells slots → RS Z T0.heap n0 S LV kV D xs ks N f sI af → Bt D N f (Mix lev M (Ad M i)) → Fr n0 locs →
      ∃ (T' : State) (locs' : List Loc) (f' : Nat → Nat → Int64) (pc : Nat) (Ls : Array Slot), Stand p l e R s m args below meth c T' locs' cells slots ∧ RS Z T'.heap n0 S LV kV D xs ks N f' sI af ∧ Bt D N f' (Lv (Ad M i)) ∧ Fr n0 locs' ∧ decode c.code pc = .ok (.return_, 1) ∧ ∀ target, Steps p.tables e below (T'.setTop (mkF m pc Ls [])) target → Steps p.tables e below (T0.setTop (mkF m 26 #[.val (.ref S), .val (.int (Int32.ofNat i)), .val (.long (Int64.ofNat (i / 64 ^ lev))), .second, .val (.ref LV), .val (.int (Int32.ofNat D)), .val (.int (Int32.ofNat lev)), s7, s8, s9] [])) target := by
  intro n
  induction n with
  | zero =>
    intro lev f s7 s8 s9 T0 locs hs7 hs8 hs9 hn X0 R0 B0 N0
    obtain rfl : lev = D := by omega
    obtain ⟨T1, Ls, X1, e1, st⟩ := addM S LV lev i (i / 64 ^ lev) s7 s8 s9 X0 hx hZ hw hby hml hown rfl Sh.d4
    exact ⟨T1, locs, f, 92, Ls, X1, by rw [e1]; exact R0, own_mix_all B0 (Nat.le_refl _), N0, by rw [hby]; exact d6_92, st⟩
  | succ n ih =>
    intro lev f s7 s8 s9 T0 locs hs7 hs8 hs9 hn X0 R0 B0 N0
    have hl : lev < D := by omega
    have hk := own_rngw Sh hi lev hl
    have hv := own_le i lev
    have s20 := Sh.s20
    obtain ⟨T1, h1, w, X1, e1, R1, hb, hcase⟩ := addT n0 S LV kV D xs ks N f sI af i (i / 64 ^ lev) lev s7 s8 s9 X0 hx hZ hw hby hml hown rfl hs7 hs8 hs9 R0 hl Sh.d4 (by omega) (by rw [← own_pw]; exact hk) (Sh.big lev hl)
    simp only [← own_pw] at R1 hb hcase X1
    have N1 := Fr.snoc X1 N0 (R0.gx lev hl)
    have B1 := own_add_step Sh B0 hl hi hb
    rcases hcase with ⟨hnz, Ls, st⟩ | ⟨hz, as7, as8, as9, os7, os8, os9, st⟩
    · exact ⟨T1, _, _, 81, Ls, X1, by rw [e1]; exact R1, own_add_ret Sh B0 hl hi hnz B1, N1, by rw [hby]; exact d6_81, st⟩
    · obtain ⟨T2, l2, f2, pc, Ls, X2, R2, B2, N2, hd, st2⟩ := ih (lev + 1) _ as7 as8 as9 T1 _ os7 os8 os9 (by omega) X1 (by rw [e1]; exact R1) B1 N1
      exact ⟨T2, l2, f2, pc, Ls, X2, R2, B2, N2, hd, fun target kt => st target (st2 target kt)⟩
theorem d6_0 : decode prog_103_method_4_code 0 = .ok (.iload_n 1, 1) := by decide +kernel
theorem d6_1 : decode prog_103_method_4_code 1 = .ok (.aload_n 0, 1) := by decide +kernel
theorem d6_2 : decode prog_103_method_4_code 2 = .ok (.getfield 16, 3) := by decide +kernel
theorem d6_5 : decode prog_103_method_4_code 5 = .ok (.invokestatic 42, 3) := by decide +kernel
theorem pd__II_I : parseMethodDescriptor "(II)I" = some ⟨[.int, .int], some .int⟩ := by decide +kernel
theorem d6_8 : decode prog_103_method_4_code 8 = .ok (.pop, 1) := by decide +kernel
theorem d6_9 : decode prog_103_method_4_code 9 = .ok (.iload_n 1, 1) := by decide +kernel
theorem d6_10 : decode prog_103_method_4_code 10 = .ok (.i2l, 1) := by decide +kernel
theorem d6_11 : decode prog_103_method_4_code 11 = .ok (.lstore_n 2, 1) := by decide +kernel
theorem d6_12 : decode prog_103_method_4_code 12 = .ok (.aload_n 0, 1) := by decide +kernel
theorem d6_13 : decode prog_103_method_4_code 13 = .ok (.getfield 32, 3) := by decide +kernel
theorem d6_16 : decode prog_103_method_4_code 16 = .ok (.astore 4, 2) := by decide +kernel
theorem d6_18 : decode prog_103_method_4_code 18 = .ok (.aload 4, 2) := by decide +kernel
theorem d6_20 : decode prog_103_method_4_code 20 = .ok (.arraylength, 1) := by decide +kernel
theorem d6_21 : decode prog_103_method_4_code 21 = .ok (.istore 5, 2) := by decide +kernel
theorem d6_23 : decode prog_103_method_4_code 23 = .ok (.iconst 0, 1) := by decide +kernel
theorem d6_24 : decode prog_103_method_4_code 24 = .ok (.istore 6, 2) := by decide +kernel
theorem pn_6 : plainName "com/example/halfword/halfword/verify/RoundRobinSet" = true := by first | (simp [plainName, overriddenIn]; done) | decide +kernel
theorem ef_rAdd (m : MethodId) (x0 : Addr) (x1 : Int32) : entryFrame m #[(.ref x0), (.int x1)] 10 = mkF m 0 #[.val (.ref x0), .val (.int x1), .unset, .unset, .unset, .unset, .unset, .unset, .unset, .unset] [] := by first | (simp [entryFrame, mkF, argsToLocals, Value.category]; done) | rfl
set_option maxRecDepth 65536 in
set_option maxHeartbeats 40000000 in
theorem rAdd (l : Launch) (Z : State) (a0 : Array Value) (hw : ∀ d ∈ tables_1, d.before a0 Z = true) (ws : List Jvm.Cond) (o0 : Addr) (sz af i : Nat) (M : Nat → Prop) (h0 : Heap) (n0 : Nat) (Z0 : n0 ≤ h0.size) (R_m : RSM Z n0 o0 sz af M h0) (hi : i < sz) :
    MetFree l (⟨"com/example/halfword/halfword/verify/RoundRobinSet", "add", "(I)V"⟩ : MethodName) (head1 (Jvm.Cond.code (⟨"com/example/halfword/halfword/verify/RoundRobinSet", "add", "(I)V"⟩ : MethodName) prog_103_method_4_code 10 none :: ws) ({ frames := 2, cells := 0, slots := 0, locals := 30 } : Room)) (fun a U => a = #[(.ref o0), (.int (Int32.ofNat i))] ∧ Z.Warmed39 U.vm ∧ U.heap = h0) (fun _ _ _ _ _ => True) (fun _ U o U' => ∃ v L, o = .returned v ∧ QRS Z n0 o0 sz af (Ad M i) v U'.heap L ∧ FrameEnd U o U' L ({ frames := 2, cells := 0, slots := 0, locals := 30 } : Room).cells ({ frames := 2, cells := 0, slots := 0, locals := 30 } : Room).slots) := by
  refine MetFree.of_bodySF (plainFor_of_name pn_6) hisR ?_
  intro p e s m args below meth c s₁ Bd hml0 hP hK
  obtain ⟨rfl, hZ, hh⟩ := hP
  have hx := Bd.exec
  have hby := Bd.bytes
  have hml : c.maxLocals = 10 := hml0
  have hown : s.vm.findClass "com/example/halfword/halfword/verify/RoundRobinSet" = some m.cls := findClass_of_methodNamed Bd.named
  have hnm := (name_of_methodNamed Bd.named Bd.method).1
  have X0 : Stand p l e ({ frames := 2, cells := 0, slots := 0, locals := 30 } : Room) s m #[(.ref o0), (.int (Int32.ofNat i))] below meth c s₁ [] 0 0 := Stand.of_body Bd
  have e0 : s₁.heap = h0 := by rw [← hh, Bd.state]; rfl
  have N0 := Fr.nil n0
  have pre0 : ∀ t, Steps p.tables e below (s₁.setTop (mkF m 0 #[.val (.ref o0), .val (.int (Int32.ofNat i)), .unset, .unset, .unset, .unset, .unset, .unset, .unset, .unset] [])) t → Steps p.tables e below (s₁.setTop (entryFrame m #[(.ref o0), (.int (Int32.ofNat i))] 10)) t := fun t k => castTop (ef_rAdd m o0 (Int32.ofNat i)) k
  obtain ⟨LV, kV, D, xs, ks, N, f, R_s, Sh, Bb, hM, haf⟩ := id R_m
  have s20 := Sh.s20
  have hD4 := Sh.d4
  have F_s := R_s.fs
  have F_l := R_s.fl
  obtain ⟨T1, X1, e1, st1⟩ := getF X0 hx hZ hown (host := "") (Or.inl (hw _ (List.mem_of_getElem? (i := 10) rfl))) Via.refl e0 F_s (g := (mkF m 2 #[.val (.ref o0), .val (.int (Int32.ofNat i)), .unset, .unset, .unset, .unset, .unset, .unset, .unset, .unset] [(.ref o0), (.int (Int32.ofNat i))])) rfl rfl (hb hby d6_2)
  obtain ⟨_, _, ⟨T2, L2, k2, n2⟩, -, X2, ⟨Lc2, hQ2, l2, y2, z2⟩, st2⟩ := Jvm.LawKit.callS X1 hx (y := (⟨"java/util/Objects", "checkIndex", "(II)I"⟩ : MethodName)) hown (mvT hZ (hw _ (List.mem_of_getElem? (i := 37) rfl))) (mvT hZ (hw _ (List.mem_of_getElem? (i := 38) rfl))) (mvT hZ (hw _ (List.mem_of_getElem? (i := 39) rfl))) (mvT hZ (hw _ (List.mem_of_getElem? (i := 40) rfl))) (by decide) (backOf (W := 0) (rOb l Z a0 hw [] (Int32.ofNat i) (Int32.ofNat sz) h0 n0 Z0 (by rw [Int32.lt_iff_toInt_lt, own_i32 (by omega)]; show ¬ (i : Int) < 0; omega) ((own_ltI (by omega) (by omega)).mpr hi)) hZ (hw _ (List.mem_of_getElem? (i := 40) rfl)) (hw _ (List.mem_of_getElem? (i := 39) rfl)) (by decide) (by decide)) (g := (mkF m 5 #[.val (.ref o0), .val (.int (Int32.ofNat i)), .unset, .unset, .unset, .unset, .unset, .unset, .unset, .unset] [(.int (Int32.ofNat sz)), (.int (Int32.ofNat i))])) rfl (by rw [hml]; rfl) (argsL := [(.int (Int32.ofNat i)), (.int (Int32.ofNat sz))]) (rest := []) (lenOf pd__II_I rfl) rfl (by show 2 * 0 + _ ≤ _; exact Nat.le_of_eq rfl) (hb hby d6_5) (fun _ _ => ⟨rfl, e1, (by decide : 0 + 0 ≤ _), (by decide : 0 + 0 ≤ _)⟩)
  dsimp only [Pt.U, Pt.locs, Pt.cells, Pt.slots] at X2 l2 y2 z2 st2 hQ2
  rw [l2, y2, z2] at X2
  obtain ⟨rfl, N2q, e2⟩ := hQ2
  have N2 := Fr.app N0 N2q
  obtain ⟨T3, X3, e3, st3⟩ := getF X2 hx hZ hown (host := "") (Or.inl (hw _ (List.mem_of_getElem? (i := 15) rfl))) Via.refl e2 F_l (g := (mkF m 13 #[.val (.ref o0), .val (.int (Int32.ofNat i)), .val (.long (Int64.ofNat i)), .second, .unset, .unset, .unset, .unset, .unset, .unset] [(.ref o0)])) rfl rfl (hb hby d6_13)
  obtain ⟨cl4, Ar4, -, Sa4, -⟩ := id R_s.lv
  have pre5 : ∀ t, Steps p.tables e below (T3.setTop (mkF m 26 #[.val (.ref o0), .val (.int (Int32.ofNat i)), .val (.long (Int64.ofNat i)), .second, .val (.ref LV), .val (.int (Int32.ofNat D)), .val (.int (0 : Int32)), .unset, .unset, .unset] [])) t → Steps p.tables e below (s₁.setTop (entryFrame m #[(.ref o0), (.int (Int32.ofNat i))] 10)) t := by
    intro t kt
    refine pre0 t ?_
    show Steps p.tables e below (s₁.setTop (mkF m 0 #[.val (.ref o0), .val (.int (Int32.ofNat i)), .unset, .unset, .unset, .unset, .unset, .unset, .unset, .unset] [])) _
    refine XS.iloadN X0.here hx rfl (hb hby d6_0) rfl ?_
    show Steps p.tables e below (s₁.setTop (mkF m 1 #[.val (.ref o0), .val (.int (Int32.ofNat i)), .unset, .unset, .unset, .unset, .unset, .unset, .unset, .unset] [(.int (Int32.ofNat i))])) _
    refine XS.aloadN X0.here hx rfl (hb hby d6_1) rfl rfl ?_
    show Steps p.tables e below (s₁.setTop (mkF m 2 #[.val (.ref o0), .val (.int (Int32.ofNat i)), .unset, .unset, .unset, .unset, .unset, .unset, .unset, .unset] [(.ref o0), (.int (Int32.ofNat i))])) _
    refine st1 _ ?_
    show Steps p.tables e below (T1.setTop (mkF m 5 #[.val (.ref o0), .val (.int (Int32.ofNat i)), .unset, .unset, .unset, .unset, .unset, .unset, .unset, .unset] [(.int (Int32.ofNat sz)), (.int (Int32.ofNat i))])) _
    refine st2 _ ?_
    show Steps p.tables e below (T2.setTop (mkF m 8 #[.val (.ref o0), .val (.int (Int32.ofNat i)), .unset, .unset, .unset, .unset, .unset, .unset, .unset, .unset] [(.int (Int32.ofNat i))])) _
    refine XS.pop X2.here hx rfl (hb hby d6_8) rfl rfl ?_
    show Steps p.tables e below (T2.setTop (mkF m 9 #[.val (.ref o0), .val (.int (Int32.ofNat i)), .unset, .unset, .unset, .unset, .unset, .unset, .unset, .unset] [])) _
    refine XS.iloadN X2.here hx rfl (hb hby d6_9) rfl ?_
    show Steps p.tables e below (T2.setTop (mkF m 10 #[.val (.ref o0), .val (.int (Int32.ofNat i)), .unset, .unset, .unset, .unset, .unset, .unset, .unset, .unset] [(.int (Int32.ofNat i))])) _
    refine XS.i2l X2.here hx rfl (hb hby d6_10) rfl ?_
    show Steps p.tables e below (T2.setTop (mkF m 11 #[.val (.ref o0), .val (.int (Int32.ofNat i)), .unset, .unset, .unset, .unset, .unset, .unset, .unset, .unset] [(.long ((Int32.ofNat i).toInt64))])) _
    rw [own_i2l (i := i) (by omega)]
    show Steps p.tables e below (T2.setTop (mkF m 11 #[.val (.ref o0), .val (.int (Int32.ofNat i)), .unset, .unset, .unset, .unset, .unset, .unset, .unset, .unset] [(.long (Int64.ofNat i))])) _
    refine XS.lstoreN X2.here hx rfl (hb hby d6_11) rfl (l' := #[.val (.ref o0), .val (.int (Int32.ofNat i)), .val (.long (Int64.ofNat i)), .second, .unset, .unset, .unset, .unset, .unset, .unset]) rfl ?_
    show Steps p.tables e below (T2.setTop (mkF m 12 #[.val (.ref o0), .val (.int (Int32.ofNat i)), .val (.long (Int64.ofNat i)), .second, .unset, .unset, .unset, .unset, .unset, .unset] [])) _
    refine XS.aloadN X2.here hx rfl (hb hby d6_12) rfl rfl ?_
    show Steps p.tables e below (T2.setTop (mkF m 13 #[.val (.ref o0), .val (.int (Int32.ofNat i)), .val (.long (Int64.ofNat i)), .second, .unset, .unset, .unset, .unset, .unset, .unset] [(.ref o0)])) _
    refine st3 _ ?_
    show Steps p.tables e below (T3.setTop (mkF m 16 #[.val (.ref o0), .val (.int (Int32.ofNat i)), .val (.long (Int64.ofNat i)), .second, .unset, .unset, .unset, .unset, .unset, .unset] [(.ref LV)])) _
    refine XS.astore X3.here hx rfl (hb hby d6_16) rfl rfl (l' := #[.val (.ref o0), .val (.int (Int32.ofNat i)), .val (.long (Int64.ofNat i)), .second, .val (.ref LV), .unset, .unset, .unset, .unset, .unset]) rfl ?_
    show Steps p.tables e below (T3.setTop (mkF m 18 #[.val (.ref o0), .val (.int (Int32.ofNat i)), .val (.long (Int64.ofNat i)), .second, .val (.ref LV), .unset, .unset, .unset, .unset, .unset] [])) _
    refine XS.aload X3.here hx rfl (hb hby d6_18) rfl rfl ?_
    show Steps p.tables e below (T3.setTop (mkF m 20 #[.val (.ref o0), .val (.int (Int32.ofNat i)), .val (.long (Int64.ofNat i)), .second, .val (.ref LV), .unset, .unset, .unset, .unset, .unset] [(.ref LV)])) _
    refine X3.arraylength hx (by rw [e3]; exact Ar4.1) (State.isArrayOf_alike hZ.alike Ar4.2.1) (g := (mkF m 20 #[.val (.ref o0), .val (.int (Int32.ofNat i)), .val (.long (Int64.ofNat i)), .second, .val (.ref LV), .unset, .unset, .unset, .unset, .unset] [(.ref LV)])) rfl rfl (hb hby d6_20) _ ?_
    rw [own_len Sa4]
    show Steps p.tables e below (T3.setTop (mkF m 21 #[.val (.ref o0), .val (.int (Int32.ofNat i)), .val (.long (Int64.ofNat i)), .second, .val (.ref LV), .unset, .unset, .unset, .unset, .unset] [(.int (Int32.ofNat D))])) _
    refine XS.istore X3.here hx rfl (hb hby d6_21) rfl (l' := #[.val (.ref o0), .val (.int (Int32.ofNat i)), .val (.long (Int64.ofNat i)), .second, .val (.ref LV), .val (.int (Int32.ofNat D)), .unset, .unset, .unset, .unset]) rfl ?_
    show Steps p.tables e below (T3.setTop (mkF m 23 #[.val (.ref o0), .val (.int (Int32.ofNat i)), .val (.long (Int64.ofNat i)), .second, .val (.ref LV), .val (.int (Int32.ofNat D)), .unset, .unset, .unset, .unset] [])) _
    refine XS.iconst X3.here hx rfl (hb hby d6_23) ?_
    show Steps p.tables e below (T3.setTop (mkF m 24 #[.val (.ref o0), .val (.int (Int32.ofNat i)), .val (.long (Int64.ofNat i)), .second, .val (.ref LV), .val (.int (Int32.ofNat D)), .unset, .unset, .unset, .unset] [(.int (0 : Int32))])) _
    refine XS.istore X3.here hx rfl (hb hby d6_24) rfl (l' := #[.val (.ref o0), .val (.int (Int32.ofNat i)), .val (.long (Int64.ofNat i)), .second, .val (.ref LV), .val (.int (Int32.ofNat D)), .val (.int (0 : Int32)), .unset, .unset, .unset]) rfl ?_
    exact kt
  obtain ⟨T6, L6, f', pc, Ls, X6, R', B', N', hdec, st6⟩ := addL n0 o0 LV kV D xs ks N (Int32.ofNat sz) (Int64.ofNat af) i sz M hx hZ hw hby hml hown Sh hi hM D 0 f .unset .unset .unset T3 _ One.u One.u One.u (by omega) X3 (by rw [e3]; exact R_s) (own_mix_0 Bb) N2
  rw [show i / 64 ^ 0 = i from by simp] at st6
  obtain ⟨fs, hr, hrun, hended, hW, hsame⟩ := X6.leave (v := none) (fun _ => rfl)
  refine ⟨_, _, pre5 _ (st6 _ ?_), hrun, hended, _, _, rfl, ?_, ⟨_, rfl⟩, hW, hsame.mono (by decide) (by decide)⟩
  · exact X6.returnOut hx Bd.returns hdec hr
  · exact ⟨rfl, N', LV, kV, D, xs, ks, N, f', R', Sh, B', fun e he => he.elim (hM e) (fun q => q ▸ hi), haf⟩
theorem d13_16 : decode prog_103_method_7_code 16 = .ok (.iload 7, 2) := by decide +kernel
theorem d13_18 : decode prog_103_method_7_code 18 = .ok (.iload 6, 2) := by decide +kernel
theorem d13_20 : decode prog_103_method_7_code 20 = .ok (.if_icmp .ge 54, 3) := by decide +kernel
theorem d13_23 : decode prog_103_method_7_code 23 = .ok (.aload 5, 2) := by decide +kernel
theorem d13_25 : decode prog_103_method_7_code 25 = .ok (.iload 7, 2) := by decide +kernel
theorem d13_27 : decode prog_103_method_7_code 27 = .ok (.aaload, 1) := by decide +kernel
theorem d13_28 : decode prog_103_method_7_code 28 = .ok (.astore 8, 2) := by decide +kernel
theorem os_removeT_28 {z0 : Value} {z1 : Value} {z3 : Value} {z5 : Value} {z6 : Value} {z7 : Value} {s8 : Slot} {s9 : Slot} {v : Addr} (h : One s8) : storeLocals #[.val z0, .val z1, .second, .val z3, .second, .val z5, .val z6, .val z7, s8, s9] 8 (.ref v) = some #[.val z0, .val z1, .second, .val z3, .second, .val z5, .val z6, .val z7, .val (.ref v), s9] := by
  rcases h with rfl | ⟨w, rfl, hw⟩
  · rfl
  · cases w <;> first | rfl | (simp [Value.category] at hw)
theorem d13_30 : decode prog_103_method_7_code 30 = .ok (.lload_n 3, 1) := by decide +kernel
theorem d13_31 : decode prog_103_method_7_code 31 = .ok (.bipush 6, 2) := by decide +kernel
theorem d13_33 : decode prog_103_method_7_code 33 = .ok (.lushr, 1) := by decide +kernel
theorem d13_34 : decode prog_103_method_7_code 34 = .ok (.l2i, 1) := by decide +kernel
theorem d13_35 : decode prog_103_method_7_code 35 = .ok (.istore 9, 2) := by decide +kernel
theorem os_removeT_35 {z0 : Value} {z1 : Value} {z3 : Value} {z5 : Value} {z6 : Value} {z7 : Value} {z8 : Value} {s9 : Slot} {v : Int32} (h : One s9) : storeLocals #[.val z0, .val z1, .second, .val z3, .second, .val z5, .val z6, .val z7, .val z8, s9] 9 (.int v) = some #[.val z0, .val z1, .second, .val z3, .second, .val z5, .val z6, .val z7, .val z8, .val (.int v)] := by
  rcases h with rfl | ⟨w, rfl, hw⟩
  · rfl
  · cases w <;> first | rfl | (simp [Value.category] at hw)
theorem d13_37 : decode prog_103_method_7_code 37 = .ok (.aload 8, 2) := by decide +kernel
theorem d13_39 : decode prog_103_method_7_code 39 = .ok (.iload 9, 2) := by decide +kernel
theorem d13_41 : decode prog_103_method_7_code 41 = .ok (.dup2, 1) := by decide +kernel
theorem d13_42 : decode prog_103_method_7_code 42 = .ok (.laload, 1) := by decide +kernel
theorem d13_43 : decode prog_103_method_7_code 43 = .ok (.lconst 1, 1) := by decide +kernel
theorem d13_44 : decode prog_103_method_7_code 44 = .ok (.lload_n 3, 1) := by decide +kernel
theorem d13_45 : decode prog_103_method_7_code 45 = .ok (.l2i, 1) := by decide +kernel
theorem d13_46 : decode prog_103_method_7_code 46 = .ok (.lshl, 1) := by decide +kernel
theorem d13_47 : decode prog_103_method_7_code 47 = .ok (.ldc2_w 64, 3) := by decide +kernel
theorem d13_50 : decode prog_103_method_7_code 50 = .ok (.lxor, 1) := by decide +kernel
theorem d13_51 : decode prog_103_method_7_code 51 = .ok (.land, 1) := by decide +kernel
theorem d13_52 : decode prog_103_method_7_code 52 = .ok (.lastore, 1) := by decide +kernel
theorem d13_53 : decode prog_103_method_7_code 53 = .ok (.aload 8, 2) := by decide +kernel
theorem d13_55 : decode prog_103_method_7_code 55 = .ok (.iload 9, 2) := by decide +kernel
theorem d13_57 : decode prog_103_method_7_code 57 = .ok (.laload, 1) := by decide +kernel
theorem d13_58 : decode prog_103_method_7_code 58 = .ok (.lconst 0, 1) := by decide +kernel
theorem d13_59 : decode prog_103_method_7_code 59 = .ok (.lcmp, 1) := by decide +kernel
theorem d13_60 : decode prog_103_method_7_code 60 = .ok (.ifCond .eq 4, 3) := by decide +kernel
theorem d13_64 : decode prog_103_method_7_code 64 = .ok (.iload 9, 2) := by decide +kernel
theorem d13_66 : decode prog_103_method_7_code 66 = .ok (.i2l, 1) := by decide +kernel
theorem d13_67 : decode prog_103_method_7_code 67 = .ok (.lstore_n 3, 1) := by decide +kernel
theorem d13_68 : decode prog_103_method_7_code 68 = .ok (.iinc 7 1, 3) := by decide +kernel
theorem d13_71 : decode prog_103_method_7_code 71 = .ok (.goto (-55), 3) := by decide +kernel
set_option maxRecDepth 65536 in
set_option maxHeartbeats 40000000 in
theorem removeT {p : Program} {l : Launch} {e : Env} {R : Room} {s : State} {m : MethodId} {args : Array Value} {below : List Frame} {meth : Method} {c : Code} {T0 : State} {locs : List Loc} {cells slots : Nat} {Z : State} {a0 : Array Value} {h0 : Heap} (n0 : Nat) (S LV : Addr) (kV : ClassId) (D : Nat) (xs : Nat → Addr) (ks : Nat → ClassId) (N : Nat → Nat) (f : Nat → Nat → Int64) (sI : Int32) (af : Int64) (i v lev : Nat) (s8 s9 : Slot) (X0 : Stand p l e R s m args below meth c T0 locs cells slots) (hx : p.tables.exec = Jvm.exec) (hZ : Z.Warmed39 s.vm) (hw : ∀ d ∈ tables_1, d.before a0 Z = true) (hby : c.code = prog_103_method_7_code) (hml : c.maxLocals = 10) (hown : s.vm.findClass "com/example/halfword/halfword/verify/RoundRobinSet" = some m.cls) (e0 : T0.heap = h0) (hs8 : One s8) (hs9 : One s9) (R_s : RS Z h0 n0 S LV kV D xs ks N f sI af) (hl : lev < D) (hD : D ≤ 4) (hv : v ≤ 1048577) (hk : v / 64 < N lev) (hN : N lev ≤ 16384) :
    ∃ (T' : State) (h' : Heap) (w : Int64), Stand p l e R s m args below meth c T' (locs ++ [⟨xs lev, (Int32.ofNat (v / 64)).toNatClampNeg⟩]) cells slots ∧ T'.heap = h' ∧ RS Z h' n0 S LV kV D xs ks N (up2 f lev (v / 64) w) sI af ∧ (∀ b, b < 64 → (bit w b ↔ bit (f lev (v / 64)) b ∧ b ≠ v % 64)) ∧ ((w ≠ 0 ∧ ∃ Ls, ∀ target, Steps p.tables e below (T'.setTop (mkF m 63 Ls [])) target → Steps p.tables e below (T0.setTop (mkF m 16 #[.val (.ref S), .val (.long (Int64.ofNat i)), .second, .val (.long (Int64.ofNat v)), .second, .val (.ref LV), .val (.int (Int32.ofNat D)), .val (.int (Int32.ofNat lev)), s8, s9] [])) target) ∨ (w = 0 ∧ ∃ as8 as9 : Slot, One as8 ∧ One as9 ∧ ∀ target, Steps p.tables e below (T'.setTop (mkF m 16 #[.val (.ref S), .val (.long (Int64.ofNat i)), .second, .val (.long (Int64.ofNat (v / 64))), .second, .val (.ref LV), .val (.int (Int32.ofNat D)), .val (.int (Int32.ofNat (lev + 1))), as8, as9] [])) target → Steps p.tables e below (T0.setTop (mkF m 16 #[.val (.ref S), .val (.long (Int64.ofNat i)), .second, .val (.long (Int64.ofNat v)), .second, .val (.ref LV), .val (.int (Int32.ofNat D)), .val (.int (Int32.ofNat lev)), s8, s9] [])) target)) := by
  have pre0 : ∀ t, Steps p.tables e below (T0.setTop (mkF m 16 #[.val (.ref S), .val (.long (Int64.ofNat i)), .second, .val (.long (Int64.ofNat v)), .second, .val (.ref LV), .val (.int (Int32.ofNat D)), .val (.int (Int32.ofNat lev)), s8, s9] [])) t → Steps p.tables e below (T0.setTop (mkF m 16 #[.val (.ref S), .val (.long (Int64.ofNat i)), .second, .val (.long (Int64.ofNat v)), .second, .val (.ref LV), .val (.int (Int32.ofNat D)), .val (.int (Int32.ofNat lev)), s8, s9] [])) t := fun _ k => k
  obtain ⟨cl1, Ar1, qa1, Sa1, Ha1⟩ := id R_s.lv
  have hin1 : ¬ ((Int32.ofNat lev) < 0 ∨ cl1.slots.size ≤ (Int32.ofNat lev).toNatClampNeg) := own_inb Sa1 hl (show D < 2147483648 by omega)
  have hat1 : cl1.slots[(Int32.ofNat lev).toNatClampNeg]? = some (.ref (xs lev)) := by rw [own_cl (Nat.lt_trans hl (show D < 2147483648 by omega))]; exact Ha1 lev hl
  obtain ⟨cl2, Ar2, qa2, Sa2, Ha2⟩ := id (R_s.la lev hl)
  have hin2 : ¬ ((Int32.ofNat (v / 64)) < 0 ∨ cl2.slots.size ≤ (Int32.ofNat (v / 64)).toNatClampNeg) := own_inb Sa2 hk (show N lev < 2147483648 by omega)
  have hat2 : cl2.slots[(Int32.ofNat (v / 64)).toNatClampNeg]? = some (.long (f lev (v / 64))) := by rw [own_cl (Nat.lt_trans hk (show N lev < 2147483648 by omega))]; exact Ha2 _ hk
  obtain ⟨cl3, Ar3, qa3, Sa3, Ha3⟩ := id (R_s.la lev hl)
  have hin3 : ¬ ((Int32.ofNat (v / 64)) < 0 ∨ cl3.slots.size ≤ (Int32.ofNat (v / 64)).toNatClampNeg) := own_inb Sa3 hk (show N lev < 2147483648 by omega)
  obtain ⟨T4, h4, X4, e4, W4, st4⟩ := stJ X0 hx hZ e0 Ar3 (j := (Int32.ofNat (v / 64))) hin3 (g := (mkF m 52 #[.val (.ref S), .val (.long (Int64.ofNat i)), .second, .val (.long (Int64.ofNat v)), .second, .val (.ref LV), .val (.int (Int32.ofNat D)), .val (.int (Int32.ofNat lev)), .val (.ref (xs lev)), .val (.int (Int32.ofNat (v / 64)))] [(.long ((f lev (v / 64)) &&& (((1 : Int64) <<< ((Int32.ofNat v) &&& 0x3f).toInt64) ^^^ (-1 : Int64)))), (.int (Int32.ofNat (v / 64))), (.ref (xs lev))])) rfl rfl (hb hby d13_52)
  have R_w4 := R_s.word hl (show v / 64 < 2147483648 by omega) W4
  obtain ⟨cl5, Ar5, qa5, Sa5, Ha5⟩ := id (R_w4.la lev hl)
  have hin5 : ¬ ((Int32.ofNat (v / 64)) < 0 ∨ cl5.slots.size ≤ (Int32.ofNat (v / 64)).toNatClampNeg) := own_inb Sa5 hk (show N lev < 2147483648 by omega)
  have hat5 : cl5.slots[(Int32.ofNat (v / 64)).toNatClampNeg]? = some (.long ((f lev (v / 64)) &&& (((1 : Int64) <<< ((Int32.ofNat v) &&& 0x3f).toInt64) ^^^ (-1 : Int64)))) := by rw [own_cl (Nat.lt_trans hk (show N lev < 2147483648 by omega))]; exact (by have q := Ha5 _ hk; simp only [own_up2] at q; exact q)
  have pre6 : ∀ t, Steps p.tables e below (T4.setTop (mkF m 60 #[.val (.ref S), .val (.long (Int64.ofNat i)), .second, .val (.long (Int64.ofNat v)), .second, .val (.ref LV), .val (.int (Int32.ofNat D)), .val (.int (Int32.ofNat lev)), .val (.ref (xs lev)), .val (.int (Int32.ofNat (v / 64)))] [(.int (lcmpW ((f lev (v / 64)) &&& (((1 : Int64) <<< ((Int32.ofNat v) &&& 0x3f).toInt64) ^^^ (-1 : Int64))) (0 : Int64)))])) t → Steps p.tables e below (T0.setTop (mkF m 16 #[.val (.ref S), .val (.long (Int64.ofNat i)), .second, .val (.long (Int64.ofNat v)), .second, .val (.ref LV), .val (.int (Int32.ofNat D)), .val (.int (Int32.ofNat lev)), s8, s9] [])) t := by
    intro t kt
    refine pre0 t ?_
    show Steps p.tables e below (T0.setTop (mkF m 16 #[.val (.ref S), .val (.long (Int64.ofNat i)), .second, .val (.long (Int64.ofNat v)), .second, .val (.ref LV), .val (.int (Int32.ofNat D)), .val (.int (Int32.ofNat lev)), s8, s9] [])) _
    refine XS.iload X0.here hx rfl (hb hby d13_16) rfl ?_
    show Steps p.tables e below (T0.setTop (mkF m 18 #[.val (.ref S), .val (.long (Int64.ofNat i)), .second, .val (.long (Int64.ofNat v)), .second, .val (.ref LV), .val (.int (Int32.ofNat D)), .val (.int (Int32.ofNat lev)), s8, s9] [(.int (Int32.ofNat lev))])) _
    refine XS.iload X0.here hx rfl (hb hby d13_18) rfl ?_
    show Steps p.tables e below (T0.setTop (mkF m 20 #[.val (.ref S), .val (.long (Int64.ofNat i)), .second, .val (.long (Int64.ofNat v)), .second, .val (.ref LV), .val (.int (Int32.ofNat D)), .val (.int (Int32.ofNat lev)), s8, s9] [(.int (Int32.ofNat D)), (.int (Int32.ofNat lev))])) _
    refine XS.icmpNo X0.here hx rfl (hb hby d13_20) rfl (tlt ((own_ltI (by omega) (by omega)).mpr hl)).2.1 ?_
    show Steps p.tables e below (T0.setTop (mkF m 23 #[.val (.ref S), .val (.long (Int64.ofNat i)), .second, .val (.long (Int64.ofNat v)), .second, .val (.ref LV), .val (.int (Int32.ofNat D)), .val (.int (Int32.ofNat lev)), s8, s9] [])) _
    refine XS.aload X0.here hx rfl (hb hby d13_23) rfl rfl ?_
    show Steps p.tables e below (T0.setTop (mkF m 25 #[.val (.ref S), .val (.long (Int64.ofNat i)), .second, .val (.long (Int64.ofNat v)), .second, .val (.ref LV), .val (.int (Int32.ofNat D)), .val (.int (Int32.ofNat lev)), s8, s9] [(.ref LV)])) _
    refine XS.iload X0.here hx rfl (hb hby d13_25) rfl ?_
    show Steps p.tables e below (T0.setTop (mkF m 27 #[.val (.ref S), .val (.long (Int64.ofNat i)), .second, .val (.long (Int64.ofNat v)), .second, .val (.ref LV), .val (.int (Int32.ofNat D)), .val (.int (Int32.ofNat lev)), s8, s9] [(.int (Int32.ofNat lev)), (.ref LV)])) _
    refine X0.aaload hx (j := (Int32.ofNat lev)) (v := (.ref (xs lev))) (by rw [e0]; exact Ar1.1) (State.isArrayOf_alike hZ.alike Ar1.2.1) rfl Ar1.2.2 hin1 hat1 (g := (mkF m 27 #[.val (.ref S), .val (.long (Int64.ofNat i)), .second, .val (.long (Int64.ofNat v)), .second, .val (.ref LV), .val (.int (Int32.ofNat D)), .val (.int (Int32.ofNat lev)), s8, s9] [(.int (Int32.ofNat lev)), (.ref LV)])) rfl rfl (hb hby d13_27) _ ?_
    show Steps p.tables e below (T0.setTop (mkF m 28 #[.val (.ref S), .val (.long (Int64.ofNat i)), .second, .val (.long (Int64.ofNat v)), .second, .val (.ref LV), .val (.int (Int32.ofNat D)), .val (.int (Int32.ofNat lev)), s8, s9] [(.ref (xs lev))])) _
    refine XS.astore X0.here hx rfl (hb hby d13_28) rfl rfl (l' := #[.val (.ref S), .val (.long (Int64.ofNat i)), .second, .val (.long (Int64.ofNat v)), .second, .val (.ref LV), .val (.int (Int32.ofNat D)), .val (.int (Int32.ofNat lev)), .val (.ref (xs lev)), s9]) (os_removeT_28 hs8) ?_
    show Steps p.tables e below (T0.setTop (mkF m 30 #[.val (.ref S), .val (.long (Int64.ofNat i)), .second, .val (.long (Int64.ofNat v)), .second, .val (.ref LV), .val (.int (Int32.ofNat D)), .val (.int (Int32.ofNat lev)), .val (.ref (xs lev)), s9] [])) _
    refine XS.lloadN X0.here hx rfl (hb hby d13_30) rfl ?_
    show Steps p.tables e below (T0.setTop (mkF m 31 #[.val (.ref S), .val (.long (Int64.ofNat i)), .second, .val (.long (Int64.ofNat v)), .second, .val (.ref LV), .val (.int (Int32.ofNat D)), .val (.int (Int32.ofNat lev)), .val (.ref (xs lev)), s9] [(.long (Int64.ofNat v))])) _
    refine XS.bipush X0.here hx rfl (hb hby d13_31) ?_
    show Steps p.tables e below (T0.setTop (mkF m 33 #[.val (.ref S), .val (.long (Int64.ofNat i)), .second, .val (.long (Int64.ofNat v)), .second, .val (.ref LV), .val (.int (Int32.ofNat D)), .val (.int (Int32.ofNat lev)), .val (.ref (xs lev)), s9] [(.int (6 : Int32)), (.long (Int64.ofNat v))])) _
    refine XS.lushr X0.here hx rfl (hb hby d13_33) rfl ?_
    show Steps p.tables e below (T0.setTop (mkF m 34 #[.val (.ref S), .val (.long (Int64.ofNat i)), .second, .val (.long (Int64.ofNat v)), .second, .val (.ref LV), .val (.int (Int32.ofNat D)), .val (.int (Int32.ofNat lev)), .val (.ref (xs lev)), s9] [(.long (((Int64.ofNat v).toUInt64 >>> ((6 : Int32) &&& 0x3f).toInt64.toUInt64).toInt64))])) _
    refine XS.l2i X0.here hx rfl (hb hby d13_34) rfl ?_
    show Steps p.tables e below (T0.setTop (mkF m 35 #[.val (.ref S), .val (.long (Int64.ofNat i)), .second, .val (.long (Int64.ofNat v)), .second, .val (.ref LV), .val (.int (Int32.ofNat D)), .val (.int (Int32.ofNat lev)), .val (.ref (xs lev)), s9] [(.int ((((Int64.ofNat v).toUInt64 >>> ((6 : Int32) &&& 0x3f).toInt64.toUInt64).toInt64).toInt32))])) _
    rw [own_ush6 (i := v) (by omega), own_l2i (i := v / 64) (by omega)]
    show Steps p.tables e below (T0.setTop (mkF m 35 #[.val (.ref S), .val (.long (Int64.ofNat i)), .second, .val (.long (Int64.ofNat v)), .second, .val (.ref LV), .val (.int (Int32.ofNat D)), .val (.int (Int32.ofNat lev)), .val (.ref (xs lev)), s9] [(.int (Int32.ofNat (v / 64)))])) _
    refine XS.istore X0.here hx rfl (hb hby d13_35) rfl (l' := #[.val (.ref S), .val (.long (Int64.ofNat i)), .second, .val (.long (Int64.ofNat v)), .second, .val (.ref LV), .val (.int (Int32.ofNat D)), .val (.int (Int32.ofNat lev)), .val (.ref (xs lev)), .val (.int (Int32.ofNat (v / 64)))]) (os_removeT_35 hs9) ?_
    show Steps p.tables e below (T0.setTop (mkF m 37 #[.val (.ref S), .val (.long (Int64.ofNat i)), .second, .val (.long (Int64.ofNat v)), .second, .val (.ref LV), .val (.int (Int32.ofNat D)), .val (.int (Int32.ofNat lev)), .val (.ref (xs lev)), .val (.int (Int32.ofNat (v / 64)))] [])) _
    refine XS.aload X0.here hx rfl (hb hby d13_37) rfl rfl ?_
    show Steps p.tables e below (T0.setTop (mkF m 39 #[.val (.ref S), .val (.long (Int64.ofNat i)), .second, .val (.long (Int64.ofNat v)), .second, .val (.ref LV), .val (.int (Int32.ofNat D)), .val (.int (Int32.ofNat lev)), .val (.ref (xs lev)), .val (.int (Int32.ofNat (v / 64)))] [(.ref (xs lev))])) _
    refine XS.iload X0.here hx rfl (hb hby d13_39) rfl ?_
    show Steps p.tables e below (T0.setTop (mkF m 41 #[.val (.ref S), .val (.long (Int64.ofNat i)), .second, .val (.long (Int64.ofNat v)), .second, .val (.ref LV), .val (.int (Int32.ofNat D)), .val (.int (Int32.ofNat lev)), .val (.ref (xs lev)), .val (.int (Int32.ofNat (v / 64)))] [(.int (Int32.ofNat (v / 64))), (.ref (xs lev))])) _
    jvm_step X0.here [X0.here.top, hx, (hb hby d13_41), Value.category]
    show Steps p.tables e below (T0.setTop (mkF m 42 #[.val (.ref S), .val (.long (Int64.ofNat i)), .second, .val (.long (Int64.ofNat v)), .second, .val (.ref LV), .val (.int (Int32.ofNat D)), .val (.int (Int32.ofNat lev)), .val (.ref (xs lev)), .val (.int (Int32.ofNat (v / 64)))] [(.int (Int32.ofNat (v / 64))), (.ref (xs lev)), (.int (Int32.ofNat (v / 64))), (.ref (xs lev))])) _
    refine X0.laload hx (j := (Int32.ofNat (v / 64))) (v := (.long (f lev (v / 64)))) (by rw [e0]; exact Ar2.1) (State.isArrayOf_alike hZ.alike Ar2.2.1) Ar2.2.2 hin2 hat2 (g := (mkF m 42 #[.val (.ref S), .val (.long (Int64.ofNat i)), .second, .val (.long (Int64.ofNat v)), .second, .val (.ref LV), .val (.int (Int32.ofNat D)), .val (.int (Int32.ofNat lev)), .val (.ref (xs lev)), .val (.int (Int32.ofNat (v / 64)))] [(.int (Int32.ofNat (v / 64))), (.ref (xs lev)), (.int (Int32.ofNat (v / 64))), (.ref (xs lev))])) rfl rfl (hb hby d13_42) _ ?_
    show Steps p.tables e below (T0.setTop (mkF m 43 #[.val (.ref S), .val (.long (Int64.ofNat i)), .second, .val (.long (Int64.ofNat v)), .second, .val (.ref LV), .val (.int (Int32.ofNat D)), .val (.int (Int32.ofNat lev)), .val (.ref (xs lev)), .val (.int (Int32.ofNat (v / 64)))] [(.long (f lev (v / 64))), (.int (Int32.ofNat (v / 64))), (.ref (xs lev))])) _
    refine XS.lconst X0.here hx rfl (hb hby d13_43) ?_
    show Steps p.tables e below (T0.setTop (mkF m 44 #[.val (.ref S), .val (.long (Int64.ofNat i)), .second, .val (.long (Int64.ofNat v)), .second, .val (.ref LV), .val (.int (Int32.ofNat D)), .val (.int (Int32.ofNat lev)), .val (.ref (xs lev)), .val (.int (Int32.ofNat (v / 64)))] [(.long (1 : Int64)), (.long (f lev (v / 64))), (.int (Int32.ofNat (v / 64))), (.ref (xs lev))])) _
    refine XS.lloadN X0.here hx rfl (hb hby d13_44) rfl ?_
    show Steps p.tables e below (T0.setTop (mkF m 45 #[.val (.ref S), .val (.long (Int64.ofNat i)), .second, .val (.long (Int64.ofNat v)), .second, .val (.ref LV), .val (.int (Int32.ofNat D)), .val (.int (Int32.ofNat lev)), .val (.ref (xs lev)), .val (.int (Int32.ofNat (v / 64)))] [(.long (Int64.ofNat v)), (.long (1 : Int64)), (.long (f lev (v / 64))), (.int (Int32.ofNat (v / 64))), (.ref (xs lev))])) _
    refine XS.l2i X0.here hx rfl (hb hby d13_45) rfl ?_
    show Steps p.tables e below (T0.setTop (mkF m 46 #[.val (.ref S), .val (.long (Int64.ofNat i)), .second, .val (.long (Int64.ofNat v)), .second, .val (.ref LV), .val (.int (Int32.ofNat D)), .val (.int (Int32.ofNat lev)), .val (.ref (xs lev)), .val (.int (Int32.ofNat (v / 64)))] [(.int ((Int64.ofNat v).toInt32)), (.long (1 : Int64)), (.long (f lev (v / 64))), (.int (Int32.ofNat (v / 64))), (.ref (xs lev))])) _
    rw [own_l2i (i := v) (by omega)]
    show Steps p.tables e below (T0.setTop (mkF m 46 #[.val (.ref S), .val (.long (Int64.ofNat i)), .second, .val (.long (Int64.ofNat v)), .second, .val (.ref LV), .val (.int (Int32.ofNat D)), .val (.int (Int32.ofNat lev)), .val (.ref (xs lev)), .val (.int (Int32.ofNat (v / 64)))] [(.int (Int32.ofNat v)), (.long (1 : Int64)), (.long (f lev (v / 64))), (.int (Int32.ofNat (v / 64))), (.ref (xs lev))])) _
    refine XS.lshl X0.here hx rfl (hb hby d13_46) rfl ?_
    show Steps p.tables e below (T0.setTop (mkF m 47 #[.val (.ref S), .val (.long (Int64.ofNat i)), .second, .val (.long (Int64.ofNat v)), .second, .val (.ref LV), .val (.int (Int32.ofNat D)), .val (.int (Int32.ofNat lev)), .val (.ref (xs lev)), .val (.int (Int32.ofNat (v / 64)))] [(.long ((1 : Int64) <<< ((Int32.ofNat v) &&& 0x3f).toInt64)), (.long (f lev (v / 64))), (.int (Int32.ofNat (v / 64))), (.ref (xs lev))])) _
    refine X0.ldc2Long hx hown (mvT hZ (hw _ (List.mem_of_getElem? (i := 56) rfl))) (g := (mkF m 47 #[.val (.ref S), .val (.long (Int64.ofNat i)), .second, .val (.long (Int64.ofNat v)), .second, .val (.ref LV), .val (.int (Int32.ofNat D)), .val (.int (Int32.ofNat lev)), .val (.ref (xs lev)), .val (.int (Int32.ofNat (v / 64)))] [(.long ((1 : Int64) <<< ((Int32.ofNat v) &&& 0x3f).toInt64)), (.long (f lev (v / 64))), (.int (Int32.ofNat (v / 64))), (.ref (xs lev))])) rfl (hb hby d13_47) _ ?_
    show Steps p.tables e below (T0.setTop (mkF m 50 #[.val (.ref S), .val (.long (Int64.ofNat i)), .second, .val (.long (Int64.ofNat v)), .second, .val (.ref LV), .val (.int (Int32.ofNat D)), .val (.int (Int32.ofNat lev)), .val (.ref (xs lev)), .val (.int (Int32.ofNat (v / 64)))] [(.long (-1 : Int64)), (.long ((1 : Int64) <<< ((Int32.ofNat v) &&& 0x3f).toInt64)), (.long (f lev (v / 64))), (.int (Int32.ofNat (v / 64))), (.ref (xs lev))])) _
    refine XS.lxor X0.here hx rfl (hb hby d13_50) rfl ?_
    show Steps p.tables e below (T0.setTop (mkF m 51 #[.val (.ref S), .val (.long (Int64.ofNat i)), .second, .val (.long (Int64.ofNat v)), .second, .val (.ref LV), .val (.int (Int32.ofNat D)), .val (.int (Int32.ofNat lev)), .val (.ref (xs lev)), .val (.int (Int32.ofNat (v / 64)))] [(.long (((1 : Int64) <<< ((Int32.ofNat v) &&& 0x3f).toInt64) ^^^ (-1 : Int64))), (.long (f lev (v / 64))), (.int (Int32.ofNat (v / 64))), (.ref (xs lev))])) _
    refine XS.land X0.here hx rfl (hb hby d13_51) rfl ?_
    show Steps p.tables e below (T0.setTop (mkF m 52 #[.val (.ref S), .val (.long (Int64.ofNat i)), .second, .val (.long (Int64.ofNat v)), .second, .val (.ref LV), .val (.int (Int32.ofNat D)), .val (.int (Int32.ofNat lev)), .val (.ref (xs lev)), .val (.int (Int32.ofNat (v / 64)))] [(.long ((f lev (v / 64)) &&& (((1 : Int64) <<< ((Int32.ofNat v) &&& 0x3f).toInt64) ^^^ (-1 : Int64)))), (.int (Int32.ofNat (v / 64))), (.ref (xs lev))])) _
    refine st4 _ ?_
    show Steps p.tables e below (T4.setTop (mkF m 53 #[.val (.ref S), .val (.long (Int64.ofNat i)), .second, .val (.long (Int64.ofNat v)), .second, .val (.ref LV), .val (.int (Int32.ofNat D)), .val (.int (Int32.ofNat lev)), .val (.ref (xs lev)), .val (.int (Int32.ofNat (v / 64)))] [])) _
    refine XS.aload X4.here hx rfl (hb hby d13_53) rfl rfl ?_
    show Steps p.tables e below (T4.setTop (mkF m 55 #[.val (.ref S), .val (.long (Int64.ofNat i)), .second, .val (.long (Int64.ofNat v)), .second, .val (.ref LV), .val (.int (Int32.ofNat D)), .val (.int (Int32.ofNat lev)), .val (.ref (xs lev)), .val (.int (Int32.ofNat (v / 64)))] [(.ref (xs lev))])) _
    refine XS.iload X4.here hx rfl (hb hby d13_55) rfl ?_
    show Steps p.tables e below (T4.setTop (mkF m 57 #[.val (.ref S), .val (.long (Int64.ofNat i)), .second, .val (.long (Int64.ofNat v)), .second, .val (.ref LV), .val (.int (Int32.ofNat D)), .val (.int (Int32.ofNat lev)), .val (.ref (xs lev)), .val (.int (Int32.ofNat (v / 64)))] [(.int (Int32.ofNat (v / 64))), (.ref (xs lev))])) _
    refine X4.laload hx (j := (Int32.ofNat (v / 64))) (v := (.long ((f lev (v / 64)) &&& (((1 : Int64) <<< ((Int32.ofNat v) &&& 0x3f).toInt64) ^^^ (-1 : Int64))))) (by rw [e4]; exact Ar5.1) (State.isArrayOf_alike hZ.alike Ar5.2.1) Ar5.2.2 hin5 hat5 (g := (mkF m 57 #[.val (.ref S), .val (.long (Int64.ofNat i)), .second, .val (.long (Int64.ofNat v)), .second, .val (.ref LV), .val (.int (Int32.ofNat D)), .val (.int (Int32.ofNat lev)), .val (.ref (xs lev)), .val (.int (Int32.ofNat (v / 64)))] [(.int (Int32.ofNat (v / 64))), (.ref (xs lev))])) rfl rfl (hb hby d13_57) _ ?_
    show Steps p.tables e below (T4.setTop (mkF m 58 #[.val (.ref S), .val (.long (Int64.ofNat i)), .second, .val (.long (Int64.ofNat v)), .second, .val (.ref LV), .val (.int (Int32.ofNat D)), .val (.int (Int32.ofNat lev)), .val (.ref (xs lev)), .val (.int (Int32.ofNat (v / 64)))] [(.long ((f lev (v / 64)) &&& (((1 : Int64) <<< ((Int32.ofNat v) &&& 0x3f).toInt64) ^^^ (-1 : Int64))))])) _
    refine XS.lconst X4.here hx rfl (hb hby d13_58) ?_
    show Steps p.tables e below (T4.setTop (mkF m 59 #[.val (.ref S), .val (.long (Int64.ofNat i)), .second, .val (.long (Int64.ofNat v)), .second, .val (.ref LV), .val (.int (Int32.ofNat D)), .val (.int (Int32.ofNat lev)), .val (.ref (xs lev)), .val (.int (Int32.ofNat (v / 64)))] [(.long (0 : Int64)), (.long ((f lev (v / 64)) &&& (((1 : Int64) <<< ((Int32.ofNat v) &&& 0x3f).toInt64) ^^^ (-1 : Int64))))])) _
    refine XS.lcmp X4.here hx rfl (hb hby d13_59) rfl ?_
    exact kt
  by_cases hc7 : (lcmpW ((f lev (v / 64)) &&& (((1 : Int64) <<< ((Int32.ofNat v) &&& 0x3f).toInt64) ^^^ (-1 : Int64))) (0 : Int64)) = (0 : Int32)
  · skip
    have hc7' : ((f lev (v / 64)) &&& (((1 : Int64) <<< ((Int32.ofNat v) &&& 0x3f).toInt64) ^^^ (-1 : Int64))) = (0 : Int64) := (own_lc0 _ _).mp hc7
    have pre8 : ∀ t, Steps p.tables e below (T4.setTop (mkF m 16 #[.val (.ref S), .val (.long (Int64.ofNat i)), .second, .val (.long ((Int32.ofNat (v / 64)).toInt64)), .second, .val (.ref LV), .val (.int (Int32.ofNat D)), .val (.int ((Int32.ofNat lev) + (1 : Int32))), .val (.ref (xs lev)), .val (.int (Int32.ofNat (v / 64)))] [])) t → Steps p.tables e below (T0.setTop (mkF m 16 #[.val (.ref S), .val (.long (Int64.ofNat i)), .second, .val (.long (Int64.ofNat v)), .second, .val (.ref LV), .val (.int (Int32.ofNat D)), .val (.int (Int32.ofNat lev)), s8, s9] [])) t := by
      intro t kt
      refine pre6 t ?_
      show Steps p.tables e below (T4.setTop (mkF m 60 #[.val (.ref S), .val (.long (Int64.ofNat i)), .second, .val (.long (Int64.ofNat v)), .second, .val (.ref LV), .val (.int (Int32.ofNat D)), .val (.int (Int32.ofNat lev)), .val (.ref (xs lev)), .val (.int (Int32.ofNat (v / 64)))] [(.int (lcmpW ((f lev (v / 64)) &&& (((1 : Int64) <<< ((Int32.ofNat v) &&& 0x3f).toInt64) ^^^ (-1 : Int64))) (0 : Int64)))])) _
      refine XS.ifYes X4.here hx rfl (pc0 := 60) (pc' := 64) rfl (hb hby d13_60) rfl ((if0 _ _).trans (teq hc7).1) (by decide) (by decide) ?_
      show Steps p.tables e below (T4.setTop (mkF m 64 #[.val (.ref S), .val (.long (Int64.ofNat i)), .second, .val (.long (Int64.ofNat v)), .second, .val (.ref LV), .val (.int (Int32.ofNat D)), .val (.int (Int32.ofNat lev)), .val (.ref (xs lev)), .val (.int (Int32.ofNat (v / 64)))] [])) _
      refine XS.iload X4.here hx rfl (hb hby d13_64) rfl ?_
      show Steps p.tables e below (T4.setTop (mkF m 66 #[.val (.ref S), .val (.long (Int64.ofNat i)), .second, .val (.long (Int64.ofNat v)), .second, .val (.ref LV), .val (.int (Int32.ofNat D)), .val (.int (Int32.ofNat lev)), .val (.ref (xs lev)), .val (.int (Int32.ofNat (v / 64)))] [(.int (Int32.ofNat (v / 64)))])) _
      refine XS.i2l X4.here hx rfl (hb hby d13_66) rfl ?_
      show Steps p.tables e below (T4.setTop (mkF m 67 #[.val (.ref S), .val (.long (Int64.ofNat i)), .second, .val (.long (Int64.ofNat v)), .second, .val (.ref LV), .val (.int (Int32.ofNat D)), .val (.int (Int32.ofNat lev)), .val (.ref (xs lev)), .val (.int (Int32.ofNat (v / 64)))] [(.long ((Int32.ofNat (v / 64)).toInt64))])) _
      refine XS.lstoreN X4.here hx rfl (hb hby d13_67) rfl (l' := #[.val (.ref S), .val (.long (Int64.ofNat i)), .second, .val (.long ((Int32.ofNat (v / 64)).toInt64)), .second, .val (.ref LV), .val (.int (Int32.ofNat D)), .val (.int (Int32.ofNat lev)), .val (.ref (xs lev)), .val (.int (Int32.ofNat (v / 64)))]) rfl ?_
      show Steps p.tables e below (T4.setTop (mkF m 68 #[.val (.ref S), .val (.long (Int64.ofNat i)), .second, .val (.long ((Int32.ofNat (v / 64)).toInt64)), .second, .val (.ref LV), .val (.int (Int32.ofNat D)), .val (.int (Int32.ofNat lev)), .val (.ref (xs lev)), .val (.int (Int32.ofNat (v / 64)))] [])) _
      refine XS.iinc X4.here hx rfl (hb hby d13_68) rfl (l' := #[.val (.ref S), .val (.long (Int64.ofNat i)), .second, .val (.long ((Int32.ofNat (v / 64)).toInt64)), .second, .val (.ref LV), .val (.int (Int32.ofNat D)), .val (.int ((Int32.ofNat lev) + (1 : Int32))), .val (.ref (xs lev)), .val (.int (Int32.ofNat (v / 64)))]) rfl ?_
      show Steps p.tables e below (T4.setTop (mkF m 71 #[.val (.ref S), .val (.long (Int64.ofNat i)), .second, .val (.long ((Int32.ofNat (v / 64)).toInt64)), .second, .val (.ref LV), .val (.int (Int32.ofNat D)), .val (.int ((Int32.ofNat lev) + (1 : Int32))), .val (.ref (xs lev)), .val (.int (Int32.ofNat (v / 64)))] [])) _
      refine XS.goto X4.here hx rfl (pc0 := 71) (pc' := 16) rfl (hb hby d13_71) (by decide) (by decide) ?_
      exact kt
    exact ⟨T4, h4, _, X4, e4, R_w4, (fun b hb => by rw [own_bit_and, own_bit_nots (v := v) (by omega) hb]), Or.inr ⟨hc7', .val (.ref (xs lev)), .val (.int (Int32.ofNat (v / 64))), One.val rfl, One.val rfl, fun target kt => pre8 target (by rw [own_i2l (i := v / 64) (by omega), own_oneI]; exact kt)⟩⟩
  · skip
    have hc7' : ¬ ((f lev (v / 64)) &&& (((1 : Int64) <<< ((Int32.ofNat v) &&& 0x3f).toInt64) ^^^ (-1 : Int64))) = (0 : Int64) := fun q => hc7 ((own_lc0 _ _).mpr q)
    have pre9 : ∀ t, Steps p.tables e below (T4.setTop (mkF m 63 #[.val (.ref S), .val (.long (Int64.ofNat i)), .second, .val (.long (Int64.ofNat v)), .second, .val (.ref LV), .val (.int (Int32.ofNat D)), .val (.int (Int32.ofNat lev)), .val (.ref (xs lev)), .val (.int (Int32.ofNat (v / 64)))] [])) t → Steps p.tables e below (T0.setTop (mkF m 16 #[.val (.ref S), .val (.long (Int64.ofNat i)), .second, .val (.long (Int64.ofNat v)), .second, .val (.ref LV), .val (.int (Int32.ofNat D)), .val (.int (Int32.ofNat lev)), s8, s9] [])) t := by
      intro t kt
      refine pre6 t ?_
      show Steps p.tables e below (T4.setTop (mkF m 60 #[.val (.ref S), .val (.long (Int64.ofNat i)), .second, .val (.long (Int64.ofNat v)), .second, .val (.ref LV), .val (.int (Int32.ofNat D)), .val (.int (Int32.ofNat lev)), .val (.ref (xs lev)), .val (.int (Int32.ofNat (v / 64)))] [(.int (lcmpW ((f lev (v / 64)) &&& (((1 : Int64) <<< ((Int32.ofNat v) &&& 0x3f).toInt64) ^^^ (-1 : Int64))) (0 : Int64)))])) _
      refine XS.ifNo X4.here hx rfl (hb hby d13_60) rfl ((if0 _ _).trans (feq hc7).1) ?_
      exact kt
    exact ⟨T4, h4, _, X4, e4, R_w4, (fun b hb => by rw [own_bit_and, own_bit_nots (v := v) (by omega) hb]), Or.inl ⟨hc7', _, fun target kt => pre9 target kt⟩⟩
set_option maxRecDepth 65536 in
set_option maxHeartbeats 40000000 in
theorem removeM {p : Program} {l : Launch} {e : Env} {R : Room} {s : State} {m : MethodId} {args : Array Value} {below : List Frame} {meth : Method} {c : Code} {T0 : State} {locs : List Loc} {cells slots : Nat} {Z : State} {a0 : Array Value} {h0 : Heap} (S LV : Addr) (D i v : Nat) (s8 s9 : Slot) (X0 : Stand p l e R s m args below meth c T0 locs cells slots) (hx : p.tables.exec = Jvm.exec) (hZ : Z.Warmed39 s.vm) (hw : ∀ d ∈ tables_1, d.before a0 Z = true) (hby : c.code = prog_103_method_7_code) (hml : c.maxLocals = 10) (hown : s.vm.findClass "com/example/halfword/halfword/verify/RoundRobinSet" = some m.cls) (e0 : T0.heap = h0) (hD : D ≤ 4) :
    ∃ (T' : State) (Ls : Array Slot), Stand p l e R s m args below meth c T' locs cells slots ∧ T'.heap = h0 ∧ ∀ target, Steps p.tables e below (T'.setTop (mkF m 74 Ls [])) target → Steps p.tables e below (T0.setTop (mkF m 16 #[.val (.ref S), .val (.long (Int64.ofNat i)), .second, .val (.long (Int64.ofNat v)), .second, .val (.ref LV), .val (.int (Int32.ofNat D)), .val (.int (Int32.ofNat D)), s8, s9] [])) target := by
  have pre0 : ∀ t, Steps p.tables e below (T0.setTop (mkF m 16 #[.val (.ref S), .val (.long (Int64.ofNat i)), .second, .val (.long (Int64.ofNat v)), .second, .val (.ref LV), .val (.int (Int32.ofNat D)), .val (.int (Int32.ofNat D)), s8, s9] [])) t → Steps p.tables e below (T0.setTop (mkF m 16 #[.val (.ref S), .val (.long (Int64.ofNat i)), .second, .val (.long (Int64.ofNat v)), .second, .val (.ref LV), .val (.int (Int32.ofNat D)), .val (.int (Int32.ofNat D)), s8, s9] [])) t := fun _ k => k
  have pre1 : ∀ t, Steps p.tables e below (T0.setTop (mkF m 74 #[.val (.ref S), .val (.long (Int64.ofNat i)), .second, .val (.long (Int64.ofNat v)), .second, .val (.ref LV), .val (.int (Int32.ofNat D)), .val (.int (Int32.ofNat D)), s8, s9] [])) t → Steps p.tables e below (T0.setTop (mkF m 16 #[.val (.ref S), .val (.long (Int64.ofNat i)), .second, .val (.long (Int64.ofNat v)), .second, .val (.ref LV), .val (.int (Int32.ofNat D)), .val (.int (Int32.ofNat D)), s8, s9] [])) t := by
    intro t kt
    refine pre0 t ?_
    show Steps p.tables e below (T0.setTop (mkF m 16 #[.val (.ref S), .val (.long (Int64.ofNat i)), .second, .val (.long (Int64.ofNat v)), .second, .val (.ref LV), .val (.int (Int32.ofNat D)), .val (.int (Int32.ofNat D)), s8, s9] [])) _
    refine XS.iload X0.here hx rfl (hb hby d13_16) rfl ?_
    show Steps p.tables e below (T0.setTop (mkF m 18 #[.val (.ref S), .val (.long (Int64.ofNat i)), .second, .val (.long (Int64.ofNat v)), .second, .val (.ref LV), .val (.int (Int32.ofNat D)), .val (.int (Int32.ofNat D)), s8, s9] [(.int (Int32.ofNat D))])) _
    refine XS.iload X0.here hx rfl (hb hby d13_18) rfl ?_
    show Steps p.tables e below (T0.setTop (mkF m 20 #[.val (.ref S), .val (.long (Int64.ofNat i)), .second, .val (.long (Int64.ofNat v)), .second, .val (.ref LV), .val (.int (Int32.ofNat D)), .val (.int (Int32.ofNat D)), s8, s9] [(.int (Int32.ofNat D)), (.int (Int32.ofNat D))])) _
    refine XS.icmpYes X0.here hx rfl (pc0 := 20) (pc' := 74) rfl (hb hby d13_20) rfl (flt (fun q => absurd ((own_ltI (by omega) (by omega)).mp q) (Nat.lt_irrefl D))).2.1 (by decide) (by decide) ?_
    exact kt
  exact ⟨T0, _, X0, e0, fun target kt => pre1 target kt⟩
theorem d13_63 : decode prog_103_method_7_code 63 = .ok (.return_, 1) := by decide +kernel
theorem d13_74 : decode prog_103_method_7_code 74 = .ok (.return_, 1) := by decide +kernel
set_option maxRecDepth 65536 in
set_option maxHeartbeats 40000000 in
theorem removeL {p : Program} {l : Launch} {e : Env} {R : Room} {s : State} {m : MethodId} {args : Array Value} {below : List Frame} {meth : Method} {c : Code} {cells slots : Nat} {Z : State} {a0 : Array Value} (n0 : Nat) (S LV : Addr) (kV : ClassId) (D : Nat) (xs : Nat → Addr) (ks : Nat → ClassId) (N : Nat → Nat) (sI : Int32) (af : Int64) (i sz : Nat) (M : Nat → Prop) (hx : p.tables.exec = Jvm.exec) (hZ : Z.Warmed39 s.vm) (hw : ∀ d ∈ tables_1, d.before a0 Z = true) (hby : c.code = prog_103_method_7_code) (hml : c.maxLocals = 10) (hown : s.vm.findClass "com/example/halfword/halfword/verify/RoundRobinSet" = some m.cls) (Sh : Shp sz D N) (hi : i < sz) (hsz : ∀ e, M e → e < sz) (hMi : M i) :
    ∀ (n lev : Nat) (f : Nat → Nat → Int64) (s8 s9 : Slot) (T0 : State) (locs : List Loc), One s8 → One s9 → lev + n = D → Stand p l e R s m args below meth c T0 locs cells slots → RS Z T0.heap n0 S LV kV D xs ks N f sI af → Bt D N f (Mix lev M (Rm M i)) → Solo M i lev → Fr n0 locs →
      ∃ (T' : State) (locs' : List Loc) (f' : Nat → Nat → Int64) (pc : Nat) (Ls : Array Slot), Stand p l e R s m args below meth c T' locs' cells slots ∧ RS Z T'.heap n0 S LV kV D xs ks N f' sI af ∧ Bt D N f' (Lv (Rm M i)) ∧ Fr n0 locs' ∧ decode c.code pc = .ok (.return_, 1) ∧ ∀ target, Steps p.tables e below (T'.setTop (mkF m pc Ls [])) target → Steps p.tables e below (T0.setTop (mkF m 16 #[.val (.ref S), .val (.long (Int64.ofNat i)), .second, .val (.long (Int64.ofNat (i / 64 ^ lev))), .second, .val (.ref LV), .val (.int (Int32.ofNat D)), .val (.int (Int32.ofNat lev)), s8, s9] [])) target := by
  intro n
  induction n with
  | zero =>
    intro lev f s8 s9 T0 locs hs8 hs9 hn X0 R0 B0 hso N0
    obtain rfl : lev = D := by omega
    obtain ⟨T1, Ls, X1, e1, st⟩ := removeM S LV lev i (i / 64 ^ lev) s8 s9 X0 hx hZ hw hby hml hown rfl Sh.d4
    exact ⟨T1, locs, f, 74, Ls, X1, by rw [e1]; exact R0, own_mix_all B0 (Nat.le_refl _), N0, by rw [hby]; exact d13_74, st⟩
  | succ n ih =>
    intro lev f s8 s9 T0 locs hs8 hs9 hn X0 R0 B0 hso N0
    have hl : lev < D := by omega
    have hk := own_rngw Sh hi lev hl
    have hv := own_le i lev
    have s20 := Sh.s20
    obtain ⟨T1, h1, w, X1, e1, R1, hb, hcase⟩ := removeT n0 S LV kV D xs ks N f sI af i (i / 64 ^ lev) lev s8 s9 X0 hx hZ hw hby hml hown rfl hs8 hs9 R0 hl Sh.d4 (by omega) (by rw [← own_pw]; exact hk) (Sh.big lev hl)
    simp only [← own_pw] at R1 hb hcase X1
    have N1 := Fr.snoc X1 N0 (R0.gx lev hl)
    have B1 := own_rem_step Sh B0 hso hMi hl hi hb
    have ew := own_up2 f lev (i / 64 ^ (lev + 1)) w
    rcases hcase with ⟨hnz, Ls, st⟩ | ⟨hz, as8, as9, os8, os9, st⟩
    · exact ⟨T1, _, _, 63, Ls, X1, by rw [e1]; exact R1, own_rem_ret Sh B1 hl hi (by rw [ew]; exact hnz), N1, by rw [hby]; exact d13_63, st⟩
    · obtain ⟨T2, l2, f2, pc, Ls, X2, R2, B2, N2, hd, st2⟩ := ih (lev + 1) _ as8 as9 T1 _ os8 os9 (by omega) X1 (by rw [e1]; exact R1) B1 (own_rem_solo Sh hsz B1 hl hi (by rw [ew]; exact hz)) N1
      exact ⟨T2, l2, f2, pc, Ls, X2, R2, B2, N2, hd, fun target kt => st target (st2 target kt)⟩
theorem d13_0 : decode prog_103_method_7_code 0 = .ok (.lload_n 1, 1) := by decide +kernel
theorem d13_1 : decode prog_103_method_7_code 1 = .ok (.lstore_n 3, 1) := by decide +kernel
theorem d13_2 : decode prog_103_method_7_code 2 = .ok (.aload_n 0, 1) := by decide +kernel
theorem d13_3 : decode prog_103_method_7_code 3 = .ok (.getfield 32, 3) := by decide +kernel
theorem d13_6 : decode prog_103_method_7_code 6 = .ok (.astore 5, 2) := by decide +kernel
theorem d13_8 : decode prog_103_method_7_code 8 = .ok (.aload 5, 2) := by decide +kernel
theorem d13_10 : decode prog_103_method_7_code 10 = .ok (.arraylength, 1) := by decide +kernel
theorem d13_11 : decode prog_103_method_7_code 11 = .ok (.istore 6, 2) := by decide +kernel
theorem d13_13 : decode prog_103_method_7_code 13 = .ok (.iconst 0, 1) := by decide +kernel
theorem d13_14 : decode prog_103_method_7_code 14 = .ok (.istore 7, 2) := by decide +kernel
theorem pn_13 : plainName "com/example/halfword/halfword/verify/RoundRobinSet" = true := by first | (simp [plainName, overriddenIn]; done) | decide +kernel
theorem ef_rRem (m : MethodId) (x0 : Addr) (x1 : Int64) : entryFrame m #[(.ref x0), (.long x1)] 10 = mkF m 0 #[.val (.ref x0), .val (.long x1), .second, .unset, .unset, .unset, .unset, .unset, .unset, .unset] [] := by first | (simp [entryFrame, mkF, argsToLocals, Value.category]; done) | rfl
set_option maxRecDepth 65536 in
set_option maxHeartbeats 40000000 in
theorem rRem (l : Launch) (Z : State) (a0 : Array Value) (hw : ∀ d ∈ tables_1, d.before a0 Z = true) (ws : List Jvm.Cond) (o0 : Addr) (sz af i : Nat) (M : Nat → Prop) (h0 : Heap) (n0 : Nat) (Z0 : n0 ≤ h0.size) (R_m : RSM Z n0 o0 sz af M h0) (hi : i < sz) (hMi : M i) :
    MetFree l (⟨"com/example/halfword/halfword/verify/RoundRobinSet", "remove", "(J)V"⟩ : MethodName) (head1 (Jvm.Cond.code (⟨"com/example/halfword/halfword/verify/RoundRobinSet", "remove", "(J)V"⟩ : MethodName) prog_103_method_7_code 10 none :: ws) ({ frames := 0, cells := 0, slots := 0, locals := 0 } : Room)) (fun a U => a = #[(.ref o0), (.long (Int64.ofNat i))] ∧ Z.Warmed39 U.vm ∧ U.heap = h0) (fun _ _ _ _ _ => True) (fun _ U o U' => ∃ v L, o = .returned v ∧ QRS Z n0 o0 sz af (Rm M i) v U'.heap L ∧ FrameEnd U o U' L ({ frames := 0, cells := 0, slots := 0, locals := 0 } : Room).cells ({ frames := 0, cells := 0, slots := 0, locals := 0 } : Room).slots) := by
  refine MetFree.of_bodySF (plainFor_of_name pn_13) hisR ?_
  intro p e s m args below meth c s₁ Bd hml0 hP hK
  obtain ⟨rfl, hZ, hh⟩ := hP
  have hx := Bd.exec
  have hby := Bd.bytes
  have hml : c.maxLocals = 10 := hml0
  have hown : s.vm.findClass "com/example/halfword/halfword/verify/RoundRobinSet" = some m.cls := findClass_of_methodNamed Bd.named
  have hnm := (name_of_methodNamed Bd.named Bd.method).1
  have X0 : Stand p l e ({ frames := 0, cells := 0, slots := 0, locals := 0 } : Room) s m #[(.ref o0), (.long (Int64.ofNat i))] below meth c s₁ [] 0 0 := Stand.of_body Bd
  have e0 : s₁.heap = h0 := by rw [← hh, Bd.state]; rfl
  have N0 := Fr.nil n0
  have pre0 : ∀ t, Steps p.tables e below (s₁.setTop (mkF m 0 #[.val (.ref o0), .val (.long (Int64.ofNat i)), .second, .unset, .unset, .unset, .unset, .unset, .unset, .unset] [])) t → Steps p.tables e below (s₁.setTop (entryFrame m #[(.ref o0), (.long (Int64.ofNat i))] 10)) t := fun t k => castTop (ef_rRem m o0 (Int64.ofNat i)) k
  obtain ⟨LV, kV, D, xs, ks, N, f, R_s, Sh, Bb, hM, haf⟩ := id R_m
  have s20 := Sh.s20
  have hD4 := Sh.d4
  have F_s := R_s.fs
  have F_l := R_s.fl
  obtain ⟨T1, X1, e1, st1⟩ := getF X0 hx hZ hown (host := "") (Or.inl (hw _ (List.mem_of_getElem? (i := 15) rfl))) Via.refl e0 F_l (g := (mkF m 3 #[.val (.ref o0), .val (.long (Int64.ofNat i)), .second, .val (.long (Int64.ofNat i)), .second, .unset, .unset, .unset, .unset, .unset] [(.ref o0)])) rfl rfl (hb hby d13_3)
  obtain ⟨cl2, Ar2, -, Sa2, -⟩ := id R_s.lv
  have pre3 : ∀ t, Steps p.tables e below (T1.setTop (mkF m 16 #[.val (.ref o0), .val (.long (Int64.ofNat i)), .second, .val (.long (Int64.ofNat i)), .second, .val (.ref LV), .val (.int (Int32.ofNat D)), .val (.int (0 : Int32)), .unset, .unset] [])) t → Steps p.tables e below (s₁.setTop (entryFrame m #[(.ref o0), (.long (Int64.ofNat i))] 10)) t := by
    intro t kt
    refine pre0 t ?_
    show Steps p.tables e below (s₁.setTop (mkF m 0 #[.val (.ref o0), .val (.long (Int64.ofNat i)), .second, .unset, .unset, .unset, .unset, .unset, .unset, .unset] [])) _
    refine XS.lloadN X0.here hx rfl (hb hby d13_0) rfl ?_
    show Steps p.tables e below (s₁.setTop (mkF m 1 #[.val (.ref o0), .val (.long (Int64.ofNat i)), .second, .unset, .unset, .unset, .unset, .unset, .unset, .unset] [(.long (Int64.ofNat i))])) _
    refine XS.lstoreN X0.here hx rfl (hb hby d13_1) rfl (l' := #[.val (.ref o0), .val (.long (Int64.ofNat i)), .second, .val (.long (Int64.ofNat i)), .second, .unset, .unset, .unset, .unset, .unset]) rfl ?_
    show Steps p.tables e below (s₁.setTop (mkF m 2 #[.val (.ref o0), .val (.long (Int64.ofNat i)), .second, .val (.long (Int64.ofNat i)), .second, .unset, .unset, .unset, .unset, .unset] [])) _
    refine XS.aloadN X0.here hx rfl (hb hby d13_2) rfl rfl ?_
    show Steps p.tables e below (s₁.setTop (mkF m 3 #[.val (.ref o0), .val (.long (Int64.ofNat i)), .second, .val (.long (Int64.ofNat i)), .second, .unset, .unset, .unset, .unset, .unset] [(.ref o0)])) _
    refine st1 _ ?_
    show Steps p.tables e below (T1.setTop (mkF m 6 #[.val (.ref o0), .val (.long (Int64.ofNat i)), .second, .val (.long (Int64.ofNat i)), .second, .unset, .unset, .unset, .unset, .unset] [(.ref LV)])) _
    refine XS.astore X1.here hx rfl (hb hby d13_6) rfl rfl (l' := #[.val (.ref o0), .val (.long (Int64.ofNat i)), .second, .val (.long (Int64.ofNat i)), .second, .val (.ref LV), .unset, .unset, .unset, .unset]) rfl ?_
    show Steps p.tables e below (T1.setTop (mkF m 8 #[.val (.ref o0), .val (.long (Int64.ofNat i)), .second, .val (.long (Int64.ofNat i)), .second, .val (.ref LV), .unset, .unset, .unset, .unset] [])) _
    refine XS.aload X1.here hx rfl (hb hby d13_8) rfl rfl ?_
    show Steps p.tables e below (T1.setTop (mkF m 10 #[.val (.ref o0), .val (.long (Int64.ofNat i)), .second, .val (.long (Int64.ofNat i)), .second, .val (.ref LV), .unset, .unset, .unset, .unset] [(.ref LV)])) _
    refine X1.arraylength hx (by rw [e1]; exact Ar2.1) (State.isArrayOf_alike hZ.alike Ar2.2.1) (g := (mkF m 10 #[.val (.ref o0), .val (.long (Int64.ofNat i)), .second, .val (.long (Int64.ofNat i)), .second, .val (.ref LV), .unset, .unset, .unset, .unset] [(.ref LV)])) rfl rfl (hb hby d13_10) _ ?_
    rw [own_len Sa2]
    show Steps p.tables e below (T1.setTop (mkF m 11 #[.val (.ref o0), .val (.long (Int64.ofNat i)), .second, .val (.long (Int64.ofNat i)), .second, .val (.ref LV), .unset, .unset, .unset, .unset] [(.int (Int32.ofNat D))])) _
    refine XS.istore X1.here hx rfl (hb hby d13_11) rfl (l' := #[.val (.ref o0), .val (.long (Int64.ofNat i)), .second, .val (.long (Int64.ofNat i)), .second, .val (.ref LV), .val (.int (Int32.ofNat D)), .unset, .unset, .unset]) rfl ?_
    show Steps p.tables e below (T1.setTop (mkF m 13 #[.val (.ref o0), .val (.long (Int64.ofNat i)), .second, .val (.long (Int64.ofNat i)), .second, .val (.ref LV), .val (.int (Int32.ofNat D)), .unset, .unset, .unset] [])) _
    refine XS.iconst X1.here hx rfl (hb hby d13_13) ?_
    show Steps p.tables e below (T1.setTop (mkF m 14 #[.val (.ref o0), .val (.long (Int64.ofNat i)), .second, .val (.long (Int64.ofNat i)), .second, .val (.ref LV), .val (.int (Int32.ofNat D)), .unset, .unset, .unset] [(.int (0 : Int32))])) _
    refine XS.istore X1.here hx rfl (hb hby d13_14) rfl (l' := #[.val (.ref o0), .val (.long (Int64.ofNat i)), .second, .val (.long (Int64.ofNat i)), .second, .val (.ref LV), .val (.int (Int32.ofNat D)), .val (.int (0 : Int32)), .unset, .unset]) rfl ?_
    exact kt
  obtain ⟨T4, L4, f', pc, Ls, X4, R', B', N', hdec, st4⟩ := removeL n0 o0 LV kV D xs ks N (Int32.ofNat sz) (Int64.ofNat af) i sz M hx hZ hw hby hml hown Sh hi hM hMi D 0 f .unset .unset T1 _ One.u One.u (by omega) X1 (by rw [e1]; exact R_s) (own_mix_0 Bb) (own_solo0 M i) N0
  rw [show i / 64 ^ 0 = i from by simp] at st4
  obtain ⟨fs, hr, hrun, hended, hW, hsame⟩ := X4.leave (v := none) (fun _ => rfl)
  refine ⟨_, _, pre3 _ (st4 _ ?_), hrun, hended, _, _, rfl, ?_, ⟨_, rfl⟩, hW, hsame.mono (by decide) (by decide)⟩
  · exact X4.returnOut hx Bd.returns hdec hr
  · exact ⟨rfl, N', LV, kV, D, xs, ks, N, f', R', Sh, B', fun e he => hM e he.1, haf⟩
theorem own_sub1 {D : Nat} (h : 1 ≤ D) : Int32.ofNat D - (1 : Int32) = Int32.ofNat (D - 1) := by
  obtain ⟨k, rfl⟩ : ∃ k, D = k + 1 := ⟨D - 1, by omega⟩
  have := own_down1 k
  rw [show k + 1 - 1 = k from rfl, ← this, Int32.sub_eq_add_neg]
theorem own_r1 {r : Int32} {M : Nat → Prop} (hr : (r = (1 : Int32) ∧ ∀ e, ¬ M e) ∨ (r = (0 : Int32) ∧ ∃ e, M e)) (h : ∀ e, ¬ M e) : r = 1 := by
  rcases hr with q | ⟨-, e, he⟩
  · exact q.1
  · exact absurd he (h e)
theorem own_r0 {r : Int32} {M : Nat → Prop} (hr : (r = (1 : Int32) ∧ ∀ e, ¬ M e) ∨ (r = (0 : Int32) ∧ ∃ e, M e)) (h : ¬ ∀ e, ¬ M e) : r = 0 := by
  rcases hr with q | q
  · exact absurd q.2 h
  · exact q.1
theorem own_twoS {z0 z1 z2 z3 z4 : Value} {a b s6 s7 : Slot} {z : Int64} (h : Two a b) : storeLocals #[.val z0, .val z1, .second, .val z2, .val z3, .second, .val z4, s7, a, b] 8 (.long z) = some #[.val z0, .val z1, .second, .val z2, .val z3, .second, .val z4, s7, .val (.long z), .second] := by
  rcases h with ⟨rfl, rfl⟩ | ⟨x, rfl, rfl⟩
  · cases s7 <;> rfl
  · cases s7 <;> rfl
theorem d5_0 : decode prog_103_method_3_code 0 = .ok (.aload_n 0, 1) := by decide +kernel
theorem d5_1 : decode prog_103_method_3_code 1 = .ok (.getfield 32, 3) := by decide +kernel
theorem d5_4 : decode prog_103_method_3_code 4 = .ok (.aload_n 0, 1) := by decide +kernel
theorem d5_5 : decode prog_103_method_3_code 5 = .ok (.getfield 32, 3) := by decide +kernel
theorem d5_8 : decode prog_103_method_3_code 8 = .ok (.arraylength, 1) := by decide +kernel
theorem d5_9 : decode prog_103_method_3_code 9 = .ok (.iconst 1, 1) := by decide +kernel
theorem d5_10 : decode prog_103_method_3_code 10 = .ok (.isub, 1) := by decide +kernel
theorem d5_11 : decode prog_103_method_3_code 11 = .ok (.aaload, 1) := by decide +kernel
theorem d5_12 : decode prog_103_method_3_code 12 = .ok (.iconst 0, 1) := by decide +kernel
theorem d5_13 : decode prog_103_method_3_code 13 = .ok (.laload, 1) := by decide +kernel
theorem d5_14 : decode prog_103_method_3_code 14 = .ok (.lconst 0, 1) := by decide +kernel
theorem d5_15 : decode prog_103_method_3_code 15 = .ok (.lcmp, 1) := by decide +kernel
theorem d5_16 : decode prog_103_method_3_code 16 = .ok (.ifCond .ne 7, 3) := by decide +kernel
theorem d5_19 : decode prog_103_method_3_code 19 = .ok (.iconst 1, 1) := by decide +kernel
theorem d5_20 : decode prog_103_method_3_code 20 = .ok (.goto 4, 3) := by decide +kernel
theorem d5_24 : decode prog_103_method_3_code 24 = .ok (.ireturn, 1) := by decide +kernel
theorem d5_23 : decode prog_103_method_3_code 23 = .ok (.iconst 0, 1) := by decide +kernel
theorem pn_5 : plainName "com/example/halfword/halfword/verify/RoundRobinSet" = true := by first | (simp [plainName, overriddenIn]; done) | decide +kernel
theorem ef_rEm (m : MethodId) (x0 : Addr) : entryFrame m #[(.ref x0)] 1 = mkF m 0 #[.val (.ref x0)] [] := by first | (simp [entryFrame, mkF, argsToLocals, Value.category]; done) | rfl
set_option maxRecDepth 65536 in
set_option maxHeartbeats 40000000 in
theorem rEm (l : Launch) (Z : State) (a0 : Array Value) (hw : ∀ d ∈ tables_1, d.before a0 Z = true) (ws : List Jvm.Cond) (o0 : Addr) (sz af : Nat) (M : Nat → Prop) (r : Int32) (h0 : Heap) (n0 : Nat) (Z0 : n0 ≤ h0.size) (R_m : RSM Z n0 o0 sz af M h0) (hr0 : (r = (1 : Int32) ∧ ∀ e, ¬ M e) ∨ (r = (0 : Int32) ∧ ∃ e, M e)) :
    MetFree l (⟨"com/example/halfword/halfword/verify/RoundRobinSet", "isEmpty", "()Z"⟩ : MethodName) (head1 (Jvm.Cond.code (⟨"com/example/halfword/halfword/verify/RoundRobinSet", "isEmpty", "()Z"⟩ : MethodName) prog_103_method_3_code 1 (some .boolean) :: ws) ({ frames := 0, cells := 0, slots := 0, locals := 0 } : Room)) (fun a U => a = #[(.ref o0)] ∧ Z.Warmed39 U.vm ∧ U.heap = h0) (fun _ _ _ _ _ => True) (fun _ U o U' => ∃ v L, o = .returned v ∧ QR (.int r) h0 n0 v U'.heap L ∧ FrameEnd U o U' L ({ frames := 0, cells := 0, slots := 0, locals := 0 } : Room).cells ({ frames := 0, cells := 0, slots := 0, locals := 0 } : Room).slots) := by
  refine MetFree.of_bodySF (plainFor_of_name pn_5) hisR ?_
  intro p e s m args below meth c s₁ Bd hml0 hP hK
  obtain ⟨rfl, hZ, hh⟩ := hP
  have hx := Bd.exec
  have hby := Bd.bytes
  have hml : c.maxLocals = 1 := hml0
  have hown : s.vm.findClass "com/example/halfword/halfword/verify/RoundRobinSet" = some m.cls := findClass_of_methodNamed Bd.named
  have hnm := (name_of_methodNamed Bd.named Bd.method).1
  have X0 : Stand p l e ({ frames := 0, cells := 0, slots := 0, locals := 0 } : Room) s m #[(.ref o0)] below meth c s₁ [] 0 0 := Stand.of_body Bd
  have e0 : s₁.heap = h0 := by rw [← hh, Bd.state]; rfl
  have N0 := Fr.nil n0
  have pre0 : ∀ t, Steps p.tables e below (s₁.setTop (mkF m 0 #[.val (.ref o0)] [])) t → Steps p.tables e below (s₁.setTop (entryFrame m #[(.ref o0)] 1)) t := fun t k => castTop (ef_rEm m o0) k
  obtain ⟨LV, kV, D, xs, ks, N, f, R_s, Sh, Bb, hM, haf⟩ := id R_m
  have hD1 := Sh.d1
  have hD4 := Sh.d4
  have F_l := R_s.fl
  have htop := Sh.top
  obtain ⟨T1, X1, e1, st1⟩ := getF X0 hx hZ hown (host := "") (Or.inl (hw _ (List.mem_of_getElem? (i := 15) rfl))) Via.refl e0 F_l (g := (mkF m 1 #[.val (.ref o0)] [(.ref o0)])) rfl rfl (hb hby d5_1)
  obtain ⟨T2, X2, e2, st2⟩ := getF X1 hx hZ hown (host := "") (Or.inl (hw _ (List.mem_of_getElem? (i := 15) rfl))) Via.refl e1 F_l (g := (mkF m 5 #[.val (.ref o0)] [(.ref o0), (.ref LV)])) rfl rfl (hb hby d5_5)
  obtain ⟨cl3, Ar3, -, Sa3, -⟩ := id R_s.lv
  obtain ⟨cl4, Ar4, qa4, Sa4, Ha4⟩ := id R_s.lv
  have hin4 : ¬ ((Int32.ofNat (D - 1)) < 0 ∨ cl4.slots.size ≤ (Int32.ofNat (D - 1)).toNatClampNeg) := own_inb Sa4 (show D - 1 < D by omega) (show D < 2147483648 by omega)
  have hat4 : cl4.slots[(Int32.ofNat (D - 1)).toNatClampNeg]? = some (.ref (xs (D - 1))) := by rw [own_cl (Nat.lt_trans (show D - 1 < D by omega) (show D < 2147483648 by omega))]; exact Ha4 (D - 1) (show D - 1 < D by omega)
  obtain ⟨cl5, Ar5, qa5, Sa5, Ha5⟩ := id (R_s.la (D - 1) (by omega))
  have hin5 : ¬ ((Int32.ofNat 0) < 0 ∨ cl5.slots.size ≤ (Int32.ofNat 0).toNatClampNeg) := own_inb Sa5 (show 0 < N (D - 1) by omega) (show N (D - 1) < 2147483648 by omega)
  have hat5 : cl5.slots[(Int32.ofNat 0).toNatClampNeg]? = some (.long (f (D - 1) 0)) := by rw [own_cl (Nat.lt_trans (show 0 < N (D - 1) by omega) (show N (D - 1) < 2147483648 by omega))]; exact Ha5 0 (show 0 < N (D - 1) by omega)
  have pre6 : ∀ t, Steps p.tables e below (T2.setTop (mkF m 16 #[.val (.ref o0)] [(.int (lcmpW (f (D - 1) 0) (0 : Int64)))])) t → Steps p.tables e below (s₁.setTop (entryFrame m #[(.ref o0)] 1)) t := by
    intro t kt
    refine pre0 t ?_
    show Steps p.tables e below (s₁.setTop (mkF m 0 #[.val (.ref o0)] [])) _
    refine XS.aloadN X0.here hx rfl (hb hby d5_0) rfl rfl ?_
    show Steps p.tables e below (s₁.setTop (mkF m 1 #[.val (.ref o0)] [(.ref o0)])) _
    refine st1 _ ?_
    show Steps p.tables e below (T1.setTop (mkF m 4 #[.val (.ref o0)] [(.ref LV)])) _
    refine XS.aloadN X1.here hx rfl (hb hby d5_4) rfl rfl ?_
    show Steps p.tables e below (T1.setTop (mkF m 5 #[.val (.ref o0)] [(.ref o0), (.ref LV)])) _
    refine st2 _ ?_
    show Steps p.tables e below (T2.setTop (mkF m 8 #[.val (.ref o0)] [(.ref LV), (.ref LV)])) _
    refine X2.arraylength hx (by rw [e2]; exact Ar3.1) (State.isArrayOf_alike hZ.alike Ar3.2.1) (g := (mkF m 8 #[.val (.ref o0)] [(.ref LV), (.ref LV)])) rfl rfl (hb hby d5_8) _ ?_
    rw [own_len Sa3]
    show Steps p.tables e below (T2.setTop (mkF m 9 #[.val (.ref o0)] [(.int (Int32.ofNat D)), (.ref LV)])) _
    refine XS.iconst X2.here hx rfl (hb hby d5_9) ?_
    show Steps p.tables e below (T2.setTop (mkF m 10 #[.val (.ref o0)] [(.int (1 : Int32)), (.int (Int32.ofNat D)), (.ref LV)])) _
    refine XS.isub X2.here hx rfl (hb hby d5_10) rfl ?_
    show Steps p.tables e below (T2.setTop (mkF m 11 #[.val (.ref o0)] [(.int ((Int32.ofNat D) - (1 : Int32))), (.ref LV)])) _
    rw [own_sub1 hD1]
    show Steps p.tables e below (T2.setTop (mkF m 11 #[.val (.ref o0)] [(.int (Int32.ofNat (D - 1))), (.ref LV)])) _
    refine X2.aaload hx (j := (Int32.ofNat (D - 1))) (v := (.ref (xs (D - 1)))) (by rw [e2]; exact Ar4.1) (State.isArrayOf_alike hZ.alike Ar4.2.1) rfl Ar4.2.2 hin4 hat4 (g := (mkF m 11 #[.val (.ref o0)] [(.int (Int32.ofNat (D - 1))), (.ref LV)])) rfl rfl (hb hby d5_11) _ ?_
    show Steps p.tables e below (T2.setTop (mkF m 12 #[.val (.ref o0)] [(.ref (xs (D - 1)))])) _
    refine XS.iconst X2.here hx rfl (hb hby d5_12) ?_
    show Steps p.tables e below (T2.setTop (mkF m 13 #[.val (.ref o0)] [(.int (0 : Int32)), (.ref (xs (D - 1)))])) _
    refine X2.laload hx (j := (0 : Int32)) (v := (.long (f (D - 1) 0))) (by rw [e2]; exact Ar5.1) (State.isArrayOf_alike hZ.alike Ar5.2.1) Ar5.2.2 hin5 hat5 (g := (mkF m 13 #[.val (.ref o0)] [(.int (0 : Int32)), (.ref (xs (D - 1)))])) rfl rfl (hb hby d5_13) _ ?_
    show Steps p.tables e below (T2.setTop (mkF m 14 #[.val (.ref o0)] [(.long (f (D - 1) 0))])) _
    refine XS.lconst X2.here hx rfl (hb hby d5_14) ?_
    show Steps p.tables e below (T2.setTop (mkF m 15 #[.val (.ref o0)] [(.long (0 : Int64)), (.long (f (D - 1) 0))])) _
    refine XS.lcmp X2.here hx rfl (hb hby d5_15) rfl ?_
    exact kt
  by_cases hc7 : (lcmpW (f (D - 1) 0) (0 : Int64)) = (0 : Int32)
  · skip
    have hc7' : (f (D - 1) 0) = (0 : Int64) := (own_lc0 _ _).mp hc7
    obtain ⟨fs, hr, hrun, hended, hW, hsame⟩ := X2.leave (v := some (.int (1 : Int32))) (fun h => by rw [Bd.returns] at h; cases h)
    refine ⟨_, _, pre6 _ ?_, hrun, hended, _, _, rfl, ?_, ⟨_, rfl⟩, hW, hsame.mono (by decide) (by decide)⟩
    · skip
      show Steps p.tables e below (T2.setTop (mkF m 16 #[.val (.ref o0)] [(.int (lcmpW (f (D - 1) 0) (0 : Int64)))])) _
      refine XS.ifNo X2.here hx rfl (hb hby d5_16) rfl ((if0 _ _).trans (teq hc7).2) ?_
      show Steps p.tables e below (T2.setTop (mkF m 19 #[.val (.ref o0)] [])) _
      refine XS.iconst X2.here hx rfl (hb hby d5_19) ?_
      show Steps p.tables e below (T2.setTop (mkF m 20 #[.val (.ref o0)] [(.int (1 : Int32))])) _
      refine XS.goto X2.here hx rfl (pc0 := 20) (pc' := 24) rfl (hb hby d5_20) (by decide) (by decide) ?_
      show Steps p.tables e below (T2.setTop (mkF m 24 #[.val (.ref o0)] [(.int (1 : Int32))])) _
      exact retN X2 hx (t := .boolean) Bd.returns (by simp) (hb hby d5_24) hr
    · show QR (.int r) h0 n0 _ T2.heap _
      rw [e2]
      exact ⟨(congrArg (fun z => some (Value.int z)) (own_r1 hr0 ((own_emp Sh hM Bb).mp hc7')).symm), N0, rfl⟩
  · skip
    have hc7' : ¬ (f (D - 1) 0) = (0 : Int64) := fun q => hc7 ((own_lc0 _ _).mpr q)
    obtain ⟨fs, hr, hrun, hended, hW, hsame⟩ := X2.leave (v := some (.int (0 : Int32))) (fun h => by rw [Bd.returns] at h; cases h)
    refine ⟨_, _, pre6 _ ?_, hrun, hended, _, _, rfl, ?_, ⟨_, rfl⟩, hW, hsame.mono (by decide) (by decide)⟩
    · skip
      show Steps p.tables e below (T2.setTop (mkF m 16 #[.val (.ref o0)] [(.int (lcmpW (f (D - 1) 0) (0 : Int64)))])) _
      refine XS.ifYes X2.here hx rfl (pc0 := 16) (pc' := 23) rfl (hb hby d5_16) rfl ((if0 _ _).trans (feq hc7).2) (by decide) (by decide) ?_
      show Steps p.tables e below (T2.setTop (mkF m 23 #[.val (.ref o0)] [])) _
      refine XS.iconst X2.here hx rfl (hb hby d5_23) ?_
      show Steps p.tables e below (T2.setTop (mkF m 24 #[.val (.ref o0)] [(.int (0 : Int32))])) _
      exact retN X2 hx (t := .boolean) Bd.returns (by simp) (hb hby d5_24) hr
    · show QR (.int r) h0 n0 _ T2.heap _
      rw [e2]
      exact ⟨(congrArg (fun z => some (Value.int z)) (own_r0 hr0 (fun q => hc7' ((own_emp Sh hM Bb).mpr q))).symm), N0, rfl⟩
theorem d10_5 : decode prog_103_method_6_code 5 = .ok (.aload_n 0, 1) := by decide +kernel
theorem d10_6 : decode prog_103_method_6_code 6 = .ok (.getfield 32, 3) := by decide +kernel
theorem d10_9 : decode prog_103_method_6_code 9 = .ok (.iload_n 3, 1) := by decide +kernel
theorem d10_10 : decode prog_103_method_6_code 10 = .ok (.aaload, 1) := by decide +kernel
theorem d10_11 : decode prog_103_method_6_code 11 = .ok (.astore 6, 2) := by decide +kernel
theorem os_nxT_11 {z0 : Value} {z1 : Value} {z3 : Value} {z4 : Value} {s6 : Slot} {s7 : Slot} {s8 : Slot} {s9 : Slot} {v : Addr} (h : One s6) : storeLocals #[.val z0, .val z1, .second, .val z3, .val z4, .second, s6, s7, s8, s9] 6 (.ref v) = some #[.val z0, .val z1, .second, .val z3, .val z4, .second, .val (.ref v), s7, s8, s9] := by
  rcases h with rfl | ⟨w, rfl, hw⟩
  · rfl
  · cases w <;> first | rfl | (simp [Value.category] at hw)
theorem d10_13 : decode prog_103_method_6_code 13 = .ok (.lload 4, 2) := by decide +kernel
theorem d10_15 : decode prog_103_method_6_code 15 = .ok (.bipush 6, 2) := by decide +kernel
theorem d10_17 : decode prog_103_method_6_code 17 = .ok (.lushr, 1) := by decide +kernel
theorem d10_18 : decode prog_103_method_6_code 18 = .ok (.l2i, 1) := by decide +kernel
theorem d10_19 : decode prog_103_method_6_code 19 = .ok (.istore 7, 2) := by decide +kernel
theorem os_nxT_19 {z0 : Value} {z1 : Value} {z3 : Value} {z4 : Value} {z6 : Value} {s7 : Slot} {s8 : Slot} {s9 : Slot} {v : Int32} (h : One s7) : storeLocals #[.val z0, .val z1, .second, .val z3, .val z4, .second, .val z6, s7, s8, s9] 7 (.int v) = some #[.val z0, .val z1, .second, .val z3, .val z4, .second, .val z6, .val (.int v), s8, s9] := by
  rcases h with rfl | ⟨w, rfl, hw⟩
  · rfl
  · cases w <;> first | rfl | (simp [Value.category] at hw)
theorem d10_21 : decode prog_103_method_6_code 21 = .ok (.iload 7, 2) := by decide +kernel
theorem d10_23 : decode prog_103_method_6_code 23 = .ok (.aload 6, 2) := by decide +kernel
theorem d10_25 : decode prog_103_method_6_code 25 = .ok (.arraylength, 1) := by decide +kernel
theorem d10_26 : decode prog_103_method_6_code 26 = .ok (.if_icmp .ge 19, 3) := by decide +kernel
theorem d10_29 : decode prog_103_method_6_code 29 = .ok (.aload 6, 2) := by decide +kernel
theorem d10_31 : decode prog_103_method_6_code 31 = .ok (.iload 7, 2) := by decide +kernel
theorem d10_33 : decode prog_103_method_6_code 33 = .ok (.laload, 1) := by decide +kernel
theorem d10_34 : decode prog_103_method_6_code 34 = .ok (.ldc2_w 64, 3) := by decide +kernel
theorem d10_37 : decode prog_103_method_6_code 37 = .ok (.lload 4, 2) := by decide +kernel
theorem d10_39 : decode prog_103_method_6_code 39 = .ok (.l2i, 1) := by decide +kernel
theorem d10_40 : decode prog_103_method_6_code 40 = .ok (.lshl, 1) := by decide +kernel
theorem d10_41 : decode prog_103_method_6_code 41 = .ok (.land, 1) := by decide +kernel
theorem d10_42 : decode prog_103_method_6_code 42 = .ok (.goto 4, 3) := by decide +kernel
theorem d10_46 : decode prog_103_method_6_code 46 = .ok (.lstore 8, 2) := by decide +kernel
theorem d10_48 : decode prog_103_method_6_code 48 = .ok (.lload 8, 2) := by decide +kernel
theorem d10_50 : decode prog_103_method_6_code 50 = .ok (.lconst 0, 1) := by decide +kernel
theorem d10_51 : decode prog_103_method_6_code 51 = .ok (.lcmp, 1) := by decide +kernel
theorem d10_52 : decode prog_103_method_6_code 52 = .ok (.ifCond .eq 21, 3) := by decide +kernel
theorem d10_73 : decode prog_103_method_6_code 73 = .ok (.iinc 3 1, 3) := by decide +kernel
theorem d10_76 : decode prog_103_method_6_code 76 = .ok (.iload_n 3, 1) := by decide +kernel
theorem d10_77 : decode prog_103_method_6_code 77 = .ok (.aload_n 0, 1) := by decide +kernel
theorem d10_78 : decode prog_103_method_6_code 78 = .ok (.getfield 32, 3) := by decide +kernel
theorem d10_81 : decode prog_103_method_6_code 81 = .ok (.arraylength, 1) := by decide +kernel
theorem d10_82 : decode prog_103_method_6_code 82 = .ok (.if_icmp .ne 7, 3) := by decide +kernel
theorem d10_85 : decode prog_103_method_6_code 85 = .ok (.ldc2_w 64, 3) := by decide +kernel
theorem d10_89 : decode prog_103_method_6_code 89 = .ok (.iload 7, 2) := by decide +kernel
theorem d10_91 : decode prog_103_method_6_code 91 = .ok (.i2l, 1) := by decide +kernel
theorem d10_92 : decode prog_103_method_6_code 92 = .ok (.lconst 1, 1) := by decide +kernel
theorem d10_93 : decode prog_103_method_6_code 93 = .ok (.ladd, 1) := by decide +kernel
theorem d10_94 : decode prog_103_method_6_code 94 = .ok (.lstore 4, 2) := by decide +kernel
theorem d10_96 : decode prog_103_method_6_code 96 = .ok (.goto (-91), 3) := by decide +kernel
theorem d10_55 : decode prog_103_method_6_code 55 = .ok (.iload 7, 2) := by decide +kernel
theorem d10_57 : decode prog_103_method_6_code 57 = .ok (.i2l, 1) := by decide +kernel
theorem d10_58 : decode prog_103_method_6_code 58 = .ok (.bipush 6, 2) := by decide +kernel
theorem d10_60 : decode prog_103_method_6_code 60 = .ok (.lshl, 1) := by decide +kernel
theorem d10_61 : decode prog_103_method_6_code 61 = .ok (.lload 8, 2) := by decide +kernel
theorem d10_63 : decode prog_103_method_6_code 63 = .ok (.invokestatic 66, 3) := by decide +kernel
theorem d10_66 : decode prog_103_method_6_code 66 = .ok (.i2l, 1) := by decide +kernel
theorem d10_67 : decode prog_103_method_6_code 67 = .ok (.ladd, 1) := by decide +kernel
theorem d10_68 : decode prog_103_method_6_code 68 = .ok (.lstore 4, 2) := by decide +kernel
theorem d10_70 : decode prog_103_method_6_code 70 = .ok (.goto 29, 3) := by decide +kernel
theorem d10_45 : decode prog_103_method_6_code 45 = .ok (.lconst 0, 1) := by decide +kernel
set_option maxRecDepth 65536 in
set_option maxHeartbeats 40000000 in
theorem nxT {p : Program} {l : Launch} {e : Env} {s : State} {m : MethodId} {args : Array Value} {below : List Frame} {meth : Method} {c : Code} {T0 : State} {locs : List Loc} {cells slots : Nat} {Z : State} {a0 : Array Value} {h0 : Heap} (n0 : Nat) (S LV : Addr) (kV : ClassId) (D : Nat) (xs : Nat → Addr) (ks : Nat → ClassId) (N : Nat → Nat) (f : Nat → Nat → Int64) (sI : Int32) (af : Int64) (frm v lev : Nat) (s6 s7 s8 s9 : Slot) (X0 : Stand p l e ({ frames := 2, cells := 0, slots := 0, locals := 30 } : Room) s m args below meth c T0 locs cells slots) (hx : p.tables.exec = Jvm.exec) (hZ : Z.Warmed39 s.vm) (hw : ∀ d ∈ tables_1, d.before a0 Z = true) (hby : c.code = prog_103_method_6_code) (hml : c.maxLocals = 10) (hown : s.vm.findClass "com/example/halfword/halfword/verify/RoundRobinSet" = some m.cls) (e0 : T0.heap = h0) (hs6 : One s6) (hs7 : One s7) (hs8 : Two s8 s9) (hcl : cells ≤ 0) (hsl : slots ≤ 0) (R_s : RS Z h0 n0 S LV kV D xs ks N f sI af) (hl : lev < D) (hD : D ≤ 4) (hv : v ≤ 1048600) (hN : N lev ≤ 16384) :
    ∃ T' : State, Stand p l e ({ frames := 2, cells := 0, slots := 0, locals := 30 } : Room) s m args below meth c T' locs cells slots ∧ T'.heap = h0 ∧ ((∃ t, v / 64 < N lev ∧ t < 64 ∧ bit (f lev (v / 64)) t ∧ ∃ as6 as7 as8 as9 : Slot, ∀ target, Steps p.tables e below (T'.setTop (mkF m 99 #[.val (.ref S), .val (.long (Int64.ofNat frm)), .second, .val (.int (Int32.ofNat lev)), .val (.long (Int64.ofNat (64 * (v / 64) + t))), .second, as6, as7, as8, as9] [])) target → Steps p.tables e below (T0.setTop (mkF m 5 #[.val (.ref S), .val (.long (Int64.ofNat frm)), .second, .val (.int (Int32.ofNat lev)), .val (.long (Int64.ofNat v)), .second, s6, s7, s8, s9] [])) target) ∨ ((v / 64 < N lev → ∀ b, b < 64 → v % 64 ≤ b → ¬ bit (f lev (v / 64)) b) ∧ lev + 1 = D ∧ ∃ Ls, ∀ target, Steps p.tables e below (T'.setTop (mkF m 88 Ls [.long (-1 : Int64)])) target → Steps p.tables e below (T0.setTop (mkF m 5 #[.val (.ref S), .val (.long (Int64.ofNat frm)), .second, .val (.int (Int32.ofNat lev)), .val (.long (Int64.ofNat v)), .second, s6, s7, s8, s9] [])) target) ∨ ((v / 64 < N lev → ∀ b, b < 64 → v % 64 ≤ b → ¬ bit (f lev (v / 64)) b) ∧ lev + 1 ≠ D ∧ ∃ as6 as7 as8 as9 : Slot, One as6 ∧ One as7 ∧ Two as8 as9 ∧ ∀ target, Steps p.tables e below (T'.setTop (mkF m 5 #[.val (.ref S), .val (.long (Int64.ofNat frm)), .second, .val (.int (Int32.ofNat (lev + 1))), .val (.long (Int64.ofNat (v / 64 + 1))), .second, as6, as7, as8, as9] [])) target → Steps p.tables e below (T0.setTop (mkF m 5 #[.val (.ref S), .val (.long (Int64.ofNat frm)), .second, .val (.int (Int32.ofNat lev)), .val (.long (Int64.ofNat v)), .second, s6, s7, s8, s9] [])) target)) := by
  have pre0 : ∀ t, Steps p.tables e below (T0.setTop (mkF m 5 #[.val (.ref S), .val (.long (Int64.ofNat frm)), .second, .val (.int (Int32.ofNat lev)), .val (.long (Int64.ofNat v)), .second, s6, s7, s8, s9] [])) t → Steps p.tables e below (T0.setTop (mkF m 5 #[.val (.ref S), .val (.long (Int64.ofNat frm)), .second, .val (.int (Int32.ofNat lev)), .val (.long (Int64.ofNat v)), .second, s6, s7, s8, s9] [])) t := fun _ k => k
  have F_l := R_s.fl
  have hDp : lev + 1 ≤ D := hl
  obtain ⟨T1, X1, e1, st1⟩ := getF X0 hx hZ hown (host := "") (Or.inl (hw _ (List.mem_of_getElem? (i := 15) rfl))) Via.refl e0 F_l (g := (mkF m 6 #[.val (.ref S), .val (.long (Int64.ofNat frm)), .second, .val (.int (Int32.ofNat lev)), .val (.long (Int64.ofNat v)), .second, s6, s7, s8, s9] [(.ref S)])) rfl rfl (hb hby d10_6)
  obtain ⟨cl2, Ar2, qa2, Sa2, Ha2⟩ := id R_s.lv
  have hin2 : ¬ ((Int32.ofNat lev) < 0 ∨ cl2.slots.size ≤ (Int32.ofNat lev).toNatClampNeg) := own_inb Sa2 hl (show D < 2147483648 by omega)
  have hat2 : cl2.slots[(Int32.ofNat lev).toNatClampNeg]? = some (.ref (xs lev)) := by rw [own_cl (Nat.lt_trans hl (show D < 2147483648 by omega))]; exact Ha2 lev hl
  obtain ⟨cl3, Ar3, -, Sa3, -⟩ := id (R_s.la lev hl)
  have pre4 : ∀ t, Steps p.tables e below (T1.setTop (mkF m 26 #[.val (.ref S), .val (.long (Int64.ofNat frm)), .second, .val (.int (Int32.ofNat lev)), .val (.long (Int64.ofNat v)), .second, .val (.ref (xs lev)), .val (.int (Int32.ofNat (v / 64))), s8, s9] [(.int (Int32.ofNat (N lev))), (.int (Int32.ofNat (v / 64)))])) t → Steps p.tables e below (T0.setTop (mkF m 5 #[.val (.ref S), .val (.long (Int64.ofNat frm)), .second, .val (.int (Int32.ofNat lev)), .val (.long (Int64.ofNat v)), .second, s6, s7, s8, s9] [])) t := by
    intro t kt
    refine pre0 t ?_
    show Steps p.tables e below (T0.setTop (mkF m 5 #[.val (.ref S), .val (.long (Int64.ofNat frm)), .second, .val (.int (Int32.ofNat lev)), .val (.long (Int64.ofNat v)), .second, s6, s7, s8, s9] [])) _
    refine XS.aloadN X0.here hx rfl (hb hby d10_5) rfl rfl ?_
    show Steps p.tables e below (T0.setTop (mkF m 6 #[.val (.ref S), .val (.long (Int64.ofNat frm)), .second, .val (.int (Int32.ofNat lev)), .val (.long (Int64.ofNat v)), .second, s6, s7, s8, s9] [(.ref S)])) _
    refine st1 _ ?_
    show Steps p.tables e below (T1.setTop (mkF m 9 #[.val (.ref S), .val (.long (Int64.ofNat frm)), .second, .val (.int (Int32.ofNat lev)), .val (.long (Int64.ofNat v)), .second, s6, s7, s8, s9] [(.ref LV)])) _
    refine XS.iloadN X1.here hx rfl (hb hby d10_9) rfl ?_
    show Steps p.tables e below (T1.setTop (mkF m 10 #[.val (.ref S), .val (.long (Int64.ofNat frm)), .second, .val (.int (Int32.ofNat lev)), .val (.long (Int64.ofNat v)), .second, s6, s7, s8, s9] [(.int (Int32.ofNat lev)), (.ref LV)])) _
    refine X1.aaload hx (j := (Int32.ofNat lev)) (v := (.ref (xs lev))) (by rw [e1]; exact Ar2.1) (State.isArrayOf_alike hZ.alike Ar2.2.1) rfl Ar2.2.2 hin2 hat2 (g := (mkF m 10 #[.val (.ref S), .val (.long (Int64.ofNat frm)), .second, .val (.int (Int32.ofNat lev)), .val (.long (Int64.ofNat v)), .second, s6, s7, s8, s9] [(.int (Int32.ofNat lev)), (.ref LV)])) rfl rfl (hb hby d10_10) _ ?_
    show Steps p.tables e below (T1.setTop (mkF m 11 #[.val (.ref S), .val (.long (Int64.ofNat frm)), .second, .val (.int (Int32.ofNat lev)), .val (.long (Int64.ofNat v)), .second, s6, s7, s8, s9] [(.ref (xs lev))])) _
    refine XS.astore X1.here hx rfl (hb hby d10_11) rfl rfl (l' := #[.val (.ref S), .val (.long (Int64.ofNat frm)), .second, .val (.int (Int32.ofNat lev)), .val (.long (Int64.ofNat v)), .second, .val (.ref (xs lev)), s7, s8, s9]) (os_nxT_11 hs6) ?_
    show Steps p.tables e below (T1.setTop (mkF m 13 #[.val (.ref S), .val (.long (Int64.ofNat frm)), .second, .val (.int (Int32.ofNat lev)), .val (.long (Int64.ofNat v)), .second, .val (.ref (xs lev)), s7, s8, s9] [])) _
    refine XS.lload X1.here hx rfl (hb hby d10_13) rfl ?_
    show Steps p.tables e below (T1.setTop (mkF m 15 #[.val (.ref S), .val (.long (Int64.ofNat frm)), .second, .val (.int (Int32.ofNat lev)), .val (.long (Int64.ofNat v)), .second, .val (.ref (xs lev)), s7, s8, s9] [(.long (Int64.ofNat v))])) _
    refine XS.bipush X1.here hx rfl (hb hby d10_15) ?_
    show Steps p.tables e below (T1.setTop (mkF m 17 #[.val (.ref S), .val (.long (Int64.ofNat frm)), .second, .val (.int (Int32.ofNat lev)), .val (.long (Int64.ofNat v)), .second, .val (.ref (xs lev)), s7, s8, s9] [(.int (6 : Int32)), (.long (Int64.ofNat v))])) _
    refine XS.lushr X1.here hx rfl (hb hby d10_17) rfl ?_
    show Steps p.tables e below (T1.setTop (mkF m 18 #[.val (.ref S), .val (.long (Int64.ofNat frm)), .second, .val (.int (Int32.ofNat lev)), .val (.long (Int64.ofNat v)), .second, .val (.ref (xs lev)), s7, s8, s9] [(.long (((Int64.ofNat v).toUInt64 >>> ((6 : Int32) &&& 0x3f).toInt64.toUInt64).toInt64))])) _
    refine XS.l2i X1.here hx rfl (hb hby d10_18) rfl ?_
    show Steps p.tables e below (T1.setTop (mkF m 19 #[.val (.ref S), .val (.long (Int64.ofNat frm)), .second, .val (.int (Int32.ofNat lev)), .val (.long (Int64.ofNat v)), .second, .val (.ref (xs lev)), s7, s8, s9] [(.int ((((Int64.ofNat v).toUInt64 >>> ((6 : Int32) &&& 0x3f).toInt64.toUInt64).toInt64).toInt32))])) _
    rw [own_ush6 (i := v) (by omega), own_l2i (i := v / 64) (by omega)]
    show Steps p.tables e below (T1.setTop (mkF m 19 #[.val (.ref S), .val (.long (Int64.ofNat frm)), .second, .val (.int (Int32.ofNat lev)), .val (.long (Int64.ofNat v)), .second, .val (.ref (xs lev)), s7, s8, s9] [(.int (Int32.ofNat (v / 64)))])) _
    refine XS.istore X1.here hx rfl (hb hby d10_19) rfl (l' := #[.val (.ref S), .val (.long (Int64.ofNat frm)), .second, .val (.int (Int32.ofNat lev)), .val (.long (Int64.ofNat v)), .second, .val (.ref (xs lev)), .val (.int (Int32.ofNat (v / 64))), s8, s9]) (os_nxT_19 hs7) ?_
    show Steps p.tables e below (T1.setTop (mkF m 21 #[.val (.ref S), .val (.long (Int64.ofNat frm)), .second, .val (.int (Int32.ofNat lev)), .val (.long (Int64.ofNat v)), .second, .val (.ref (xs lev)), .val (.int (Int32.ofNat (v / 64))), s8, s9] [])) _
    refine XS.iload X1.here hx rfl (hb hby d10_21) rfl ?_
    show Steps p.tables e below (T1.setTop (mkF m 23 #[.val (.ref S), .val (.long (Int64.ofNat frm)), .second, .val (.int (Int32.ofNat lev)), .val (.long (Int64.ofNat v)), .second, .val (.ref (xs lev)), .val (.int (Int32.ofNat (v / 64))), s8, s9] [(.int (Int32.ofNat (v / 64)))])) _
    refine XS.aload X1.here hx rfl (hb hby d10_23) rfl rfl ?_
    show Steps p.tables e below (T1.setTop (mkF m 25 #[.val (.ref S), .val (.long (Int64.ofNat frm)), .second, .val (.int (Int32.ofNat lev)), .val (.long (Int64.ofNat v)), .second, .val (.ref (xs lev)), .val (.int (Int32.ofNat (v / 64))), s8, s9] [(.ref (xs lev)), (.int (Int32.ofNat (v / 64)))])) _
    refine X1.arraylength hx (by rw [e1]; exact Ar3.1) (State.isArrayOf_alike hZ.alike Ar3.2.1) (g := (mkF m 25 #[.val (.ref S), .val (.long (Int64.ofNat frm)), .second, .val (.int (Int32.ofNat lev)), .val (.long (Int64.ofNat v)), .second, .val (.ref (xs lev)), .val (.int (Int32.ofNat (v / 64))), s8, s9] [(.ref (xs lev)), (.int (Int32.ofNat (v / 64)))])) rfl rfl (hb hby d10_25) _ ?_
    rw [own_len Sa3]
    exact kt
  by_cases hc5 : (Int32.ofNat (v / 64)) < (Int32.ofNat (N lev))
  · skip
    have hc5' : (v / 64) < (N lev) := (own_ltI (by omega) (by omega)).mp hc5
    obtain ⟨cl6, Ar6, qa6, Sa6, Ha6⟩ := id (R_s.la lev hl)
    have hin6 : ¬ ((Int32.ofNat (v / 64)) < 0 ∨ cl6.slots.size ≤ (Int32.ofNat (v / 64)).toNatClampNeg) := own_inb Sa6 hc5' (show N lev < 2147483648 by omega)
    have hat6 : cl6.slots[(Int32.ofNat (v / 64)).toNatClampNeg]? = some (.long (f lev (v / 64))) := by rw [own_cl (Nat.lt_trans hc5' (show N lev < 2147483648 by omega))]; exact Ha6 _ hc5'
    have pre7 : ∀ t, Steps p.tables e below (T1.setTop (mkF m 52 #[.val (.ref S), .val (.long (Int64.ofNat frm)), .second, .val (.int (Int32.ofNat lev)), .val (.long (Int64.ofNat v)), .second, .val (.ref (xs lev)), .val (.int (Int32.ofNat (v / 64))), .val (.long ((f lev (v / 64)) &&& ((-1 : Int64) <<< ((Int32.ofNat v) &&& 0x3f).toInt64))), .second] [(.int (lcmpW ((f lev (v / 64)) &&& ((-1 : Int64) <<< ((Int32.ofNat v) &&& 0x3f).toInt64)) (0 : Int64)))])) t → Steps p.tables e below (T0.setTop (mkF m 5 #[.val (.ref S), .val (.long (Int64.ofNat frm)), .second, .val (.int (Int32.ofNat lev)), .val (.long (Int64.ofNat v)), .second, s6, s7, s8, s9] [])) t := by
      intro t kt
      refine pre4 t ?_
      show Steps p.tables e below (T1.setTop (mkF m 26 #[.val (.ref S), .val (.long (Int64.ofNat frm)), .second, .val (.int (Int32.ofNat lev)), .val (.long (Int64.ofNat v)), .second, .val (.ref (xs lev)), .val (.int (Int32.ofNat (v / 64))), s8, s9] [(.int (Int32.ofNat (N lev))), (.int (Int32.ofNat (v / 64)))])) _
      refine XS.icmpNo X1.here hx rfl (hb hby d10_26) rfl (tlt hc5).2.1 ?_
      show Steps p.tables e below (T1.setTop (mkF m 29 #[.val (.ref S), .val (.long (Int64.ofNat frm)), .second, .val (.int (Int32.ofNat lev)), .val (.long (Int64.ofNat v)), .second, .val (.ref (xs lev)), .val (.int (Int32.ofNat (v / 64))), s8, s9] [])) _
      refine XS.aload X1.here hx rfl (hb hby d10_29) rfl rfl ?_
      show Steps p.tables e below (T1.setTop (mkF m 31 #[.val (.ref S), .val (.long (Int64.ofNat frm)), .second, .val (.int (Int32.ofNat lev)), .val (.long (Int64.ofNat v)), .second, .val (.ref (xs lev)), .val (.int (Int32.ofNat (v / 64))), s8, s9] [(.ref (xs lev))])) _
      refine XS.iload X1.here hx rfl (hb hby d10_31) rfl ?_
      show Steps p.tables e below (T1.setTop (mkF m 33 #[.val (.ref S), .val (.long (Int64.ofNat frm)), .second, .val (.int (Int32.ofNat lev)), .val (.long (Int64.ofNat v)), .second, .val (.ref (xs lev)), .val (.int (Int32.ofNat (v / 64))), s8, s9] [(.int (Int32.ofNat (v / 64))), (.ref (xs lev))])) _
      refine X1.laload hx (j := (Int32.ofNat (v / 64))) (v := (.long (f lev (v / 64)))) (by rw [e1]; exact Ar6.1) (State.isArrayOf_alike hZ.alike Ar6.2.1) Ar6.2.2 hin6 hat6 (g := (mkF m 33 #[.val (.ref S), .val (.long (Int64.ofNat frm)), .second, .val (.int (Int32.ofNat lev)), .val (.long (Int64.ofNat v)), .second, .val (.ref (xs lev)), .val (.int (Int32.ofNat (v / 64))), s8, s9] [(.int (Int32.ofNat (v / 64))), (.ref (xs lev))])) rfl rfl (hb hby d10_33) _ ?_
      show Steps p.tables e below (T1.setTop (mkF m 34 #[.val (.ref S), .val (.long (Int64.ofNat frm)), .second, .val (.int (Int32.ofNat lev)), .val (.long (Int64.ofNat v)), .second, .val (.ref (xs lev)), .val (.int (Int32.ofNat (v / 64))), s8, s9] [(.long (f lev (v / 64)))])) _
      refine X1.ldc2Long hx hown (mvT hZ (hw _ (List.mem_of_getElem? (i := 56) rfl))) (g := (mkF m 34 #[.val (.ref S), .val (.long (Int64.ofNat frm)), .second, .val (.int (Int32.ofNat lev)), .val (.long (Int64.ofNat v)), .second, .val (.ref (xs lev)), .val (.int (Int32.ofNat (v / 64))), s8, s9] [(.long (f lev (v / 64)))])) rfl (hb hby d10_34) _ ?_
      show Steps p.tables e below (T1.setTop (mkF m 37 #[.val (.ref S), .val (.long (Int64.ofNat frm)), .second, .val (.int (Int32.ofNat lev)), .val (.long (Int64.ofNat v)), .second, .val (.ref (xs lev)), .val (.int (Int32.ofNat (v / 64))), s8, s9] [(.long (-1 : Int64)), (.long (f lev (v / 64)))])) _
      refine XS.lload X1.here hx rfl (hb hby d10_37) rfl ?_
      show Steps p.tables e below (T1.setTop (mkF m 39 #[.val (.ref S), .val (.long (Int64.ofNat frm)), .second, .val (.int (Int32.ofNat lev)), .val (.long (Int64.ofNat v)), .second, .val (.ref (xs lev)), .val (.int (Int32.ofNat (v / 64))), s8, s9] [(.long (Int64.ofNat v)), (.long (-1 : Int64)), (.long (f lev (v / 64)))])) _
      refine XS.l2i X1.here hx rfl (hb hby d10_39) rfl ?_
      show Steps p.tables e below (T1.setTop (mkF m 40 #[.val (.ref S), .val (.long (Int64.ofNat frm)), .second, .val (.int (Int32.ofNat lev)), .val (.long (Int64.ofNat v)), .second, .val (.ref (xs lev)), .val (.int (Int32.ofNat (v / 64))), s8, s9] [(.int ((Int64.ofNat v).toInt32)), (.long (-1 : Int64)), (.long (f lev (v / 64)))])) _
      rw [own_l2i (i := v) (by omega)]
      show Steps p.tables e below (T1.setTop (mkF m 40 #[.val (.ref S), .val (.long (Int64.ofNat frm)), .second, .val (.int (Int32.ofNat lev)), .val (.long (Int64.ofNat v)), .second, .val (.ref (xs lev)), .val (.int (Int32.ofNat (v / 64))), s8, s9] [(.int (Int32.ofNat v)), (.long (-1 : Int64)), (.long (f lev (v / 64)))])) _
      refine XS.lshl X1.here hx rfl (hb hby d10_40) rfl ?_
      show Steps p.tables e below (T1.setTop (mkF m 41 #[.val (.ref S), .val (.long (Int64.ofNat frm)), .second, .val (.int (Int32.ofNat lev)), .val (.long (Int64.ofNat v)), .second, .val (.ref (xs lev)), .val (.int (Int32.ofNat (v / 64))), s8, s9] [(.long ((-1 : Int64) <<< ((Int32.ofNat v) &&& 0x3f).toInt64)), (.long (f lev (v / 64)))])) _
      refine XS.land X1.here hx rfl (hb hby d10_41) rfl ?_
      show Steps p.tables e below (T1.setTop (mkF m 42 #[.val (.ref S), .val (.long (Int64.ofNat frm)), .second, .val (.int (Int32.ofNat lev)), .val (.long (Int64.ofNat v)), .second, .val (.ref (xs lev)), .val (.int (Int32.ofNat (v / 64))), s8, s9] [(.long ((f lev (v / 64)) &&& ((-1 : Int64) <<< ((Int32.ofNat v) &&& 0x3f).toInt64)))])) _
      refine XS.goto X1.here hx rfl (pc0 := 42) (pc' := 46) rfl (hb hby d10_42) (by decide) (by decide) ?_
      show Steps p.tables e below (T1.setTop (mkF m 46 #[.val (.ref S), .val (.long (Int64.ofNat frm)), .second, .val (.int (Int32.ofNat lev)), .val (.long (Int64.ofNat v)), .second, .val (.ref (xs lev)), .val (.int (Int32.ofNat (v / 64))), s8, s9] [(.long ((f lev (v / 64)) &&& ((-1 : Int64) <<< ((Int32.ofNat v) &&& 0x3f).toInt64)))])) _
      refine XS.lstore X1.here hx rfl (hb hby d10_46) rfl (l' := #[.val (.ref S), .val (.long (Int64.ofNat frm)), .second, .val (.int (Int32.ofNat lev)), .val (.long (Int64.ofNat v)), .second, .val (.ref (xs lev)), .val (.int (Int32.ofNat (v / 64))), .val (.long ((f lev (v / 64)) &&& ((-1 : Int64) <<< ((Int32.ofNat v) &&& 0x3f).toInt64))), .second]) (own_twoS (s6 := .unset) hs8) ?_
      show Steps p.tables e below (T1.setTop (mkF m 48 #[.val (.ref S), .val (.long (Int64.ofNat frm)), .second, .val (.int (Int32.ofNat lev)), .val (.long (Int64.ofNat v)), .second, .val (.ref (xs lev)), .val (.int (Int32.ofNat (v / 64))), .val (.long ((f lev (v / 64)) &&& ((-1 : Int64) <<< ((Int32.ofNat v) &&& 0x3f).toInt64))), .second] [])) _
      refine XS.lload X1.here hx rfl (hb hby d10_48) rfl ?_
      show Steps p.tables e below (T1.setTop (mkF m 50 #[.val (.ref S), .val (.long (Int64.ofNat frm)), .second, .val (.int (Int32.ofNat lev)), .val (.long (Int64.ofNat v)), .second, .val (.ref (xs lev)), .val (.int (Int32.ofNat (v / 64))), .val (.long ((f lev (v / 64)) &&& ((-1 : Int64) <<< ((Int32.ofNat v) &&& 0x3f).toInt64))), .second] [(.long ((f lev (v / 64)) &&& ((-1 : Int64) <<< ((Int32.ofNat v) &&& 0x3f).toInt64)))])) _
      refine XS.lconst X1.here hx rfl (hb hby d10_50) ?_
      show Steps p.tables e below (T1.setTop (mkF m 51 #[.val (.ref S), .val (.long (Int64.ofNat frm)), .second, .val (.int (Int32.ofNat lev)), .val (.long (Int64.ofNat v)), .second, .val (.ref (xs lev)), .val (.int (Int32.ofNat (v / 64))), .val (.long ((f lev (v / 64)) &&& ((-1 : Int64) <<< ((Int32.ofNat v) &&& 0x3f).toInt64))), .second] [(.long (0 : Int64)), (.long ((f lev (v / 64)) &&& ((-1 : Int64) <<< ((Int32.ofNat v) &&& 0x3f).toInt64)))])) _
      refine XS.lcmp X1.here hx rfl (hb hby d10_51) rfl ?_
      exact kt
    by_cases hc8 : (lcmpW ((f lev (v / 64)) &&& ((-1 : Int64) <<< ((Int32.ofNat v) &&& 0x3f).toInt64)) (0 : Int64)) = (0 : Int32)
    · skip
      have hc8' : ((f lev (v / 64)) &&& ((-1 : Int64) <<< ((Int32.ofNat v) &&& 0x3f).toInt64)) = (0 : Int64) := (own_lc0 _ _).mp hc8
      obtain ⟨T9, X9, e9, st9⟩ := getF X1 hx hZ hown (host := "") (Or.inl (hw _ (List.mem_of_getElem? (i := 15) rfl))) Via.refl e1 F_l (g := (mkF m 78 #[.val (.ref S), .val (.long (Int64.ofNat frm)), .second, .val (.int (Int32.ofNat (lev + 1))), .val (.long (Int64.ofNat v)), .second, .val (.ref (xs lev)), .val (.int (Int32.ofNat (v / 64))), .val (.long ((f lev (v / 64)) &&& ((-1 : Int64) <<< ((Int32.ofNat v) &&& 0x3f).toInt64))), .second] [(.ref S), (.int (Int32.ofNat (lev + 1)))])) rfl rfl (hb hby d10_78)
      obtain ⟨cl10, Ar10, -, Sa10, -⟩ := id R_s.lv
      have pre11 : ∀ t, Steps p.tables e below (T9.setTop (mkF m 82 #[.val (.ref S), .val (.long (Int64.ofNat frm)), .second, .val (.int (Int32.ofNat (lev + 1))), .val (.long (Int64.ofNat v)), .second, .val (.ref (xs lev)), .val (.int (Int32.ofNat (v / 64))), .val (.long ((f lev (v / 64)) &&& ((-1 : Int64) <<< ((Int32.ofNat v) &&& 0x3f).toInt64))), .second] [(.int (Int32.ofNat D)), (.int (Int32.ofNat (lev + 1)))])) t → Steps p.tables e below (T0.setTop (mkF m 5 #[.val (.ref S), .val (.long (Int64.ofNat frm)), .second, .val (.int (Int32.ofNat lev)), .val (.long (Int64.ofNat v)), .second, s6, s7, s8, s9] [])) t := by
        intro t kt
        refine pre7 t ?_
        show Steps p.tables e below (T1.setTop (mkF m 52 #[.val (.ref S), .val (.long (Int64.ofNat frm)), .second, .val (.int (Int32.ofNat lev)), .val (.long (Int64.ofNat v)), .second, .val (.ref (xs lev)), .val (.int (Int32.ofNat (v / 64))), .val (.long ((f lev (v / 64)) &&& ((-1 : Int64) <<< ((Int32.ofNat v) &&& 0x3f).toInt64))), .second] [(.int (lcmpW ((f lev (v / 64)) &&& ((-1 : Int64) <<< ((Int32.ofNat v) &&& 0x3f).toInt64)) (0 : Int64)))])) _
        refine XS.ifYes X1.here hx rfl (pc0 := 52) (pc' := 73) rfl (hb hby d10_52) rfl ((if0 _ _).trans (teq hc8).1) (by decide) (by decide) ?_
        show Steps p.tables e below (T1.setTop (mkF m 73 #[.val (.ref S), .val (.long (Int64.ofNat frm)), .second, .val (.int (Int32.ofNat lev)), .val (.long (Int64.ofNat v)), .second, .val (.ref (xs lev)), .val (.int (Int32.ofNat (v / 64))), .val (.long ((f lev (v / 64)) &&& ((-1 : Int64) <<< ((Int32.ofNat v) &&& 0x3f).toInt64))), .second] [])) _
        refine XS.iinc X1.here hx rfl (hb hby d10_73) rfl (l' := #[.val (.ref S), .val (.long (Int64.ofNat frm)), .second, .val (.int ((Int32.ofNat lev) + (1 : Int32))), .val (.long (Int64.ofNat v)), .second, .val (.ref (xs lev)), .val (.int (Int32.ofNat (v / 64))), .val (.long ((f lev (v / 64)) &&& ((-1 : Int64) <<< ((Int32.ofNat v) &&& 0x3f).toInt64))), .second]) rfl ?_
        show Steps p.tables e below (T1.setTop (mkF m 76 #[.val (.ref S), .val (.long (Int64.ofNat frm)), .second, .val (.int ((Int32.ofNat lev) + (1 : Int32))), .val (.long (Int64.ofNat v)), .second, .val (.ref (xs lev)), .val (.int (Int32.ofNat (v / 64))), .val (.long ((f lev (v / 64)) &&& ((-1 : Int64) <<< ((Int32.ofNat v) &&& 0x3f).toInt64))), .second] [])) _
        rw [own_oneI]
        show Steps p.tables e below (T1.setTop (mkF m 76 #[.val (.ref S), .val (.long (Int64.ofNat frm)), .second, .val (.int (Int32.ofNat (lev + 1))), .val (.long (Int64.ofNat v)), .second, .val (.ref (xs lev)), .val (.int (Int32.ofNat (v / 64))), .val (.long ((f lev (v / 64)) &&& ((-1 : Int64) <<< ((Int32.ofNat v) &&& 0x3f).toInt64))), .second] [])) _
        refine XS.iloadN X1.here hx rfl (hb hby d10_76) rfl ?_
        show Steps p.tables e below (T1.setTop (mkF m 77 #[.val (.ref S), .val (.long (Int64.ofNat frm)), .second, .val (.int (Int32.ofNat (lev + 1))), .val (.long (Int64.ofNat v)), .second, .val (.ref (xs lev)), .val (.int (Int32.ofNat (v / 64))), .val (.long ((f lev (v / 64)) &&& ((-1 : Int64) <<< ((Int32.ofNat v) &&& 0x3f).toInt64))), .second] [(.int (Int32.ofNat (lev + 1)))])) _
        refine XS.aloadN X1.here hx rfl (hb hby d10_77) rfl rfl ?_
        show Steps p.tables e below (T1.setTop (mkF m 78 #[.val (.ref S), .val (.long (Int64.ofNat frm)), .second, .val (.int (Int32.ofNat (lev + 1))), .val (.long (Int64.ofNat v)), .second, .val (.ref (xs lev)), .val (.int (Int32.ofNat (v / 64))), .val (.long ((f lev (v / 64)) &&& ((-1 : Int64) <<< ((Int32.ofNat v) &&& 0x3f).toInt64))), .second] [(.ref S), (.int (Int32.ofNat (lev + 1)))])) _
        refine st9 _ ?_
        show Steps p.tables e below (T9.setTop (mkF m 81 #[.val (.ref S), .val (.long (Int64.ofNat frm)), .second, .val (.int (Int32.ofNat (lev + 1))), .val (.long (Int64.ofNat v)), .second, .val (.ref (xs lev)), .val (.int (Int32.ofNat (v / 64))), .val (.long ((f lev (v / 64)) &&& ((-1 : Int64) <<< ((Int32.ofNat v) &&& 0x3f).toInt64))), .second] [(.ref LV), (.int (Int32.ofNat (lev + 1)))])) _
        refine X9.arraylength hx (by rw [e9]; exact Ar10.1) (State.isArrayOf_alike hZ.alike Ar10.2.1) (g := (mkF m 81 #[.val (.ref S), .val (.long (Int64.ofNat frm)), .second, .val (.int (Int32.ofNat (lev + 1))), .val (.long (Int64.ofNat v)), .second, .val (.ref (xs lev)), .val (.int (Int32.ofNat (v / 64))), .val (.long ((f lev (v / 64)) &&& ((-1 : Int64) <<< ((Int32.ofNat v) &&& 0x3f).toInt64))), .second] [(.ref LV), (.int (Int32.ofNat (lev + 1)))])) rfl rfl (hb hby d10_81) _ ?_
        rw [own_len Sa10]
        exact kt
      by_cases hc12 : (Int32.ofNat (lev + 1)) = (Int32.ofNat D)
      · skip
        have hc12' : (lev + 1) = D := (own_inj (by omega) (by omega)).mp hc12
        have pre13 : ∀ t, Steps p.tables e below (T9.setTop (mkF m 88 #[.val (.ref S), .val (.long (Int64.ofNat frm)), .second, .val (.int (Int32.ofNat (lev + 1))), .val (.long (Int64.ofNat v)), .second, .val (.ref (xs lev)), .val (.int (Int32.ofNat (v / 64))), .val (.long ((f lev (v / 64)) &&& ((-1 : Int64) <<< ((Int32.ofNat v) &&& 0x3f).toInt64))), .second] [(.long (-1 : Int64))])) t → Steps p.tables e below (T0.setTop (mkF m 5 #[.val (.ref S), .val (.long (Int64.ofNat frm)), .second, .val (.int (Int32.ofNat lev)), .val (.long (Int64.ofNat v)), .second, s6, s7, s8, s9] [])) t := by
          intro t kt
          refine pre11 t ?_
          show Steps p.tables e below (T9.setTop (mkF m 82 #[.val (.ref S), .val (.long (Int64.ofNat frm)), .second, .val (.int (Int32.ofNat (lev + 1))), .val (.long (Int64.ofNat v)), .second, .val (.ref (xs lev)), .val (.int (Int32.ofNat (v / 64))), .val (.long ((f lev (v / 64)) &&& ((-1 : Int64) <<< ((Int32.ofNat v) &&& 0x3f).toInt64))), .second] [(.int (Int32.ofNat D)), (.int (Int32.ofNat (lev + 1)))])) _
          refine XS.icmpNo X9.here hx rfl (hb hby d10_82) rfl (teq hc12).2 ?_
          show Steps p.tables e below (T9.setTop (mkF m 85 #[.val (.ref S), .val (.long (Int64.ofNat frm)), .second, .val (.int (Int32.ofNat (lev + 1))), .val (.long (Int64.ofNat v)), .second, .val (.ref (xs lev)), .val (.int (Int32.ofNat (v / 64))), .val (.long ((f lev (v / 64)) &&& ((-1 : Int64) <<< ((Int32.ofNat v) &&& 0x3f).toInt64))), .second] [])) _
          refine X9.ldc2Long hx hown (mvT hZ (hw _ (List.mem_of_getElem? (i := 56) rfl))) (g := (mkF m 85 #[.val (.ref S), .val (.long (Int64.ofNat frm)), .second, .val (.int (Int32.ofNat (lev + 1))), .val (.long (Int64.ofNat v)), .second, .val (.ref (xs lev)), .val (.int (Int32.ofNat (v / 64))), .val (.long ((f lev (v / 64)) &&& ((-1 : Int64) <<< ((Int32.ofNat v) &&& 0x3f).toInt64))), .second] [])) rfl (hb hby d10_85) _ ?_
          exact kt
        exact ⟨T9, X9, e9, Or.inr (Or.inl ⟨(fun _ b hb hvb hbit => (own_bit_zero _).mp hc8' b hb ((own_bit_and _ _ _).mpr ⟨hbit, (own_bit_ones (v := v) (by omega) hb).mpr hvb⟩)), hc12', _, fun target kt => pre13 target kt⟩)⟩
      · skip
        have hc12' : ¬ (lev + 1) = D := fun q => hc12 ((own_inj (by omega) (by omega)).mpr q)
        have pre14 : ∀ t, Steps p.tables e below (T9.setTop (mkF m 5 #[.val (.ref S), .val (.long (Int64.ofNat frm)), .second, .val (.int (Int32.ofNat (lev + 1))), .val (.long (Int64.ofNat (v / 64 + 1))), .second, .val (.ref (xs lev)), .val (.int (Int32.ofNat (v / 64))), .val (.long ((f lev (v / 64)) &&& ((-1 : Int64) <<< ((Int32.ofNat v) &&& 0x3f).toInt64))), .second] [])) t → Steps p.tables e below (T0.setTop (mkF m 5 #[.val (.ref S), .val (.long (Int64.ofNat frm)), .second, .val (.int (Int32.ofNat lev)), .val (.long (Int64.ofNat v)), .second, s6, s7, s8, s9] [])) t := by
          intro t kt
          refine pre11 t ?_
          show Steps p.tables e below (T9.setTop (mkF m 82 #[.val (.ref S), .val (.long (Int64.ofNat frm)), .second, .val (.int (Int32.ofNat (lev + 1))), .val (.long (Int64.ofNat v)), .second, .val (.ref (xs lev)), .val (.int (Int32.ofNat (v / 64))), .val (.long ((f lev (v / 64)) &&& ((-1 : Int64) <<< ((Int32.ofNat v) &&& 0x3f).toInt64))), .second] [(.int (Int32.ofNat D)), (.int (Int32.ofNat (lev + 1)))])) _
          refine XS.icmpYes X9.here hx rfl (pc0 := 82) (pc' := 89) rfl (hb hby d10_82) rfl (feq hc12).2 (by decide) (by decide) ?_
          show Steps p.tables e below (T9.setTop (mkF m 89 #[.val (.ref S), .val (.long (Int64.ofNat frm)), .second, .val (.int (Int32.ofNat (lev + 1))), .val (.long (Int64.ofNat v)), .second, .val (.ref (xs lev)), .val (.int (Int32.ofNat (v / 64))), .val (.long ((f lev (v / 64)) &&& ((-1 : Int64) <<< ((Int32.ofNat v) &&& 0x3f).toInt64))), .second] [])) _
          refine XS.iload X9.here hx rfl (hb hby d10_89) rfl ?_
          show Steps p.tables e below (T9.setTop (mkF m 91 #[.val (.ref S), .val (.long (Int64.ofNat frm)), .second, .val (.int (Int32.ofNat (lev + 1))), .val (.long (Int64.ofNat v)), .second, .val (.ref (xs lev)), .val (.int (Int32.ofNat (v / 64))), .val (.long ((f lev (v / 64)) &&& ((-1 : Int64) <<< ((Int32.ofNat v) &&& 0x3f).toInt64))), .second] [(.int (Int32.ofNat (v / 64)))])) _
          refine XS.i2l X9.here hx rfl (hb hby d10_91) rfl ?_
          show Steps p.tables e below (T9.setTop (mkF m 92 #[.val (.ref S), .val (.long (Int64.ofNat frm)), .second, .val (.int (Int32.ofNat (lev + 1))), .val (.long (Int64.ofNat v)), .second, .val (.ref (xs lev)), .val (.int (Int32.ofNat (v / 64))), .val (.long ((f lev (v / 64)) &&& ((-1 : Int64) <<< ((Int32.ofNat v) &&& 0x3f).toInt64))), .second] [(.long ((Int32.ofNat (v / 64)).toInt64))])) _
          rw [own_i2l (i := (v / 64)) (by omega)]
          show Steps p.tables e below (T9.setTop (mkF m 92 #[.val (.ref S), .val (.long (Int64.ofNat frm)), .second, .val (.int (Int32.ofNat (lev + 1))), .val (.long (Int64.ofNat v)), .second, .val (.ref (xs lev)), .val (.int (Int32.ofNat (v / 64))), .val (.long ((f lev (v / 64)) &&& ((-1 : Int64) <<< ((Int32.ofNat v) &&& 0x3f).toInt64))), .second] [(.long (Int64.ofNat (v / 64)))])) _
          refine XS.lconst X9.here hx rfl (hb hby d10_92) ?_
          show Steps p.tables e below (T9.setTop (mkF m 93 #[.val (.ref S), .val (.long (Int64.ofNat frm)), .second, .val (.int (Int32.ofNat (lev + 1))), .val (.long (Int64.ofNat v)), .second, .val (.ref (xs lev)), .val (.int (Int32.ofNat (v / 64))), .val (.long ((f lev (v / 64)) &&& ((-1 : Int64) <<< ((Int32.ofNat v) &&& 0x3f).toInt64))), .second] [(.long (1 : Int64)), (.long (Int64.ofNat (v / 64)))])) _
          refine XS.ladd X9.here hx rfl (hb hby d10_93) rfl ?_
          show Steps p.tables e below (T9.setTop (mkF m 94 #[.val (.ref S), .val (.long (Int64.ofNat frm)), .second, .val (.int (Int32.ofNat (lev + 1))), .val (.long (Int64.ofNat v)), .second, .val (.ref (xs lev)), .val (.int (Int32.ofNat (v / 64))), .val (.long ((f lev (v / 64)) &&& ((-1 : Int64) <<< ((Int32.ofNat v) &&& 0x3f).toInt64))), .second] [(.long ((Int64.ofNat (v / 64)) + (1 : Int64)))])) _
          rw [own_addL1]
          show Steps p.tables e below (T9.setTop (mkF m 94 #[.val (.ref S), .val (.long (Int64.ofNat frm)), .second, .val (.int (Int32.ofNat (lev + 1))), .val (.long (Int64.ofNat v)), .second, .val (.ref (xs lev)), .val (.int (Int32.ofNat (v / 64))), .val (.long ((f lev (v / 64)) &&& ((-1 : Int64) <<< ((Int32.ofNat v) &&& 0x3f).toInt64))), .second] [(.long (Int64.ofNat (v / 64 + 1)))])) _
          refine XS.lstore X9.here hx rfl (hb hby d10_94) rfl (l' := #[.val (.ref S), .val (.long (Int64.ofNat frm)), .second, .val (.int (Int32.ofNat (lev + 1))), .val (.long (Int64.ofNat (v / 64 + 1))), .second, .val (.ref (xs lev)), .val (.int (Int32.ofNat (v / 64))), .val (.long ((f lev (v / 64)) &&& ((-1 : Int64) <<< ((Int32.ofNat v) &&& 0x3f).toInt64))), .second]) rfl ?_
          show Steps p.tables e below (T9.setTop (mkF m 96 #[.val (.ref S), .val (.long (Int64.ofNat frm)), .second, .val (.int (Int32.ofNat (lev + 1))), .val (.long (Int64.ofNat (v / 64 + 1))), .second, .val (.ref (xs lev)), .val (.int (Int32.ofNat (v / 64))), .val (.long ((f lev (v / 64)) &&& ((-1 : Int64) <<< ((Int32.ofNat v) &&& 0x3f).toInt64))), .second] [])) _
          refine XS.goto X9.here hx rfl (pc0 := 96) (pc' := 5) rfl (hb hby d10_96) (by decide) (by decide) ?_
          exact kt
        exact ⟨T9, X9, e9, Or.inr (Or.inr ⟨(fun _ b hb hvb hbit => (own_bit_zero _).mp hc8' b hb ((own_bit_and _ _ _).mpr ⟨hbit, (own_bit_ones (v := v) (by omega) hb).mpr hvb⟩)), hc12', .val (.ref (xs lev)), .val (.int (Int32.ofNat (v / 64))), .val (.long ((f lev (v / 64)) &&& ((-1 : Int64) <<< ((Int32.ofNat v) &&& 0x3f).toInt64))), .second, One.val rfl, One.val rfl, Or.inr ⟨_, rfl, rfl⟩, fun target kt => pre14 target kt⟩)⟩
    · skip
      have hc8' : ¬ ((f lev (v / 64)) &&& ((-1 : Int64) <<< ((Int32.ofNat v) &&& 0x3f).toInt64)) = (0 : Int64) := fun q => hc8 ((own_lc0 _ _).mpr q)
      obtain ⟨t15, ht15, hb15, et15⟩ := own_ntz (w := ((f lev (v / 64)) &&& ((-1 : Int64) <<< ((Int32.ofNat v) &&& 0x3f).toInt64))) hc8'
      obtain ⟨v15, T15, X15, ⟨rfl, e15⟩, st15⟩ := X1.callS hx (Jvm.Free.JP.Long_numberOfTrailingZeros_J.law l ((f lev (v / 64)) &&& ((-1 : Int64) <<< ((Int32.ofNat v) &&& 0x3f).toInt64))) hown (fun w h => by rcases List.mem_cons.mp h with rfl | h; exact mvT hZ (hw _ (List.mem_of_getElem? (i := 57) rfl)); rcases List.mem_cons.mp h with rfl | h; exact mvT hZ (hw _ (List.mem_of_getElem? (i := 58) rfl)); cases h) (own_ntz_tab hZ hw) (W := 2) (by decide) (by decide) (show cells + 0 ≤ 0 from hcl) (show slots + 0 ≤ 0 from hsl) (g := (mkF m 63 #[.val (.ref S), .val (.long (Int64.ofNat frm)), .second, .val (.int (Int32.ofNat lev)), .val (.long (Int64.ofNat v)), .second, .val (.ref (xs lev)), .val (.int (Int32.ofNat (v / 64))), .val (.long ((f lev (v / 64)) &&& ((-1 : Int64) <<< ((Int32.ofNat v) &&& 0x3f).toInt64))), .second] [(.long ((f lev (v / 64)) &&& ((-1 : Int64) <<< ((Int32.ofNat v) &&& 0x3f).toInt64))), (.long (Int64.ofNat (64 * (v / 64))))])) rfl (by rw [hml]; rfl) (Steps.refl _) (argsL := [(.long ((f lev (v / 64)) &&& ((-1 : Int64) <<< ((Int32.ofNat v) &&& 0x3f).toInt64)))]) (rest := [(.long (Int64.ofNat (64 * (v / 64))))]) rfl rfl (by show 2 * 0 + _ ≤ _; exact Nat.le_of_eq rfl) (hb hby d10_63) ⟨rfl, trivial⟩
      rw [et15] at st15
      have e15 : T15.heap = h0 := e15.trans e1
      rw [List.append_nil] at X15
      have pre16 : ∀ t, Steps p.tables e below (T15.setTop (mkF m 99 #[.val (.ref S), .val (.long (Int64.ofNat frm)), .second, .val (.int (Int32.ofNat lev)), .val (.long (Int64.ofNat (64 * (v / 64) + t15))), .second, .val (.ref (xs lev)), .val (.int (Int32.ofNat (v / 64))), .val (.long ((f lev (v / 64)) &&& ((-1 : Int64) <<< ((Int32.ofNat v) &&& 0x3f).toInt64))), .second] [])) t → Steps p.tables e below (T0.setTop (mkF m 5 #[.val (.ref S), .val (.long (Int64.ofNat frm)), .second, .val (.int (Int32.ofNat lev)), .val (.long (Int64.ofNat v)), .second, s6, s7, s8, s9] [])) t := by
        intro t kt
        refine pre7 t ?_
        show Steps p.tables e below (T1.setTop (mkF m 52 #[.val (.ref S), .val (.long (Int64.ofNat frm)), .second, .val (.int (Int32.ofNat lev)), .val (.long (Int64.ofNat v)), .second, .val (.ref (xs lev)), .val (.int (Int32.ofNat (v / 64))), .val (.long ((f lev (v / 64)) &&& ((-1 : Int64) <<< ((Int32.ofNat v) &&& 0x3f).toInt64))), .second] [(.int (lcmpW ((f lev (v / 64)) &&& ((-1 : Int64) <<< ((Int32.ofNat v) &&& 0x3f).toInt64)) (0 : Int64)))])) _
        refine XS.ifNo X1.here hx rfl (hb hby d10_52) rfl ((if0 _ _).trans (feq hc8).1) ?_
        show Steps p.tables e below (T1.setTop (mkF m 55 #[.val (.ref S), .val (.long (Int64.ofNat frm)), .second, .val (.int (Int32.ofNat lev)), .val (.long (Int64.ofNat v)), .second, .val (.ref (xs lev)), .val (.int (Int32.ofNat (v / 64))), .val (.long ((f lev (v / 64)) &&& ((-1 : Int64) <<< ((Int32.ofNat v) &&& 0x3f).toInt64))), .second] [])) _
        refine XS.iload X1.here hx rfl (hb hby d10_55) rfl ?_
        show Steps p.tables e below (T1.setTop (mkF m 57 #[.val (.ref S), .val (.long (Int64.ofNat frm)), .second, .val (.int (Int32.ofNat lev)), .val (.long (Int64.ofNat v)), .second, .val (.ref (xs lev)), .val (.int (Int32.ofNat (v / 64))), .val (.long ((f lev (v / 64)) &&& ((-1 : Int64) <<< ((Int32.ofNat v) &&& 0x3f).toInt64))), .second] [(.int (Int32.ofNat (v / 64)))])) _
        refine XS.i2l X1.here hx rfl (hb hby d10_57) rfl ?_
        show Steps p.tables e below (T1.setTop (mkF m 58 #[.val (.ref S), .val (.long (Int64.ofNat frm)), .second, .val (.int (Int32.ofNat lev)), .val (.long (Int64.ofNat v)), .second, .val (.ref (xs lev)), .val (.int (Int32.ofNat (v / 64))), .val (.long ((f lev (v / 64)) &&& ((-1 : Int64) <<< ((Int32.ofNat v) &&& 0x3f).toInt64))), .second] [(.long ((Int32.ofNat (v / 64)).toInt64))])) _
        rw [own_i2l (i := (v / 64)) (by omega)]
        show Steps p.tables e below (T1.setTop (mkF m 58 #[.val (.ref S), .val (.long (Int64.ofNat frm)), .second, .val (.int (Int32.ofNat lev)), .val (.long (Int64.ofNat v)), .second, .val (.ref (xs lev)), .val (.int (Int32.ofNat (v / 64))), .val (.long ((f lev (v / 64)) &&& ((-1 : Int64) <<< ((Int32.ofNat v) &&& 0x3f).toInt64))), .second] [(.long (Int64.ofNat (v / 64)))])) _
        refine XS.bipush X1.here hx rfl (hb hby d10_58) ?_
        show Steps p.tables e below (T1.setTop (mkF m 60 #[.val (.ref S), .val (.long (Int64.ofNat frm)), .second, .val (.int (Int32.ofNat lev)), .val (.long (Int64.ofNat v)), .second, .val (.ref (xs lev)), .val (.int (Int32.ofNat (v / 64))), .val (.long ((f lev (v / 64)) &&& ((-1 : Int64) <<< ((Int32.ofNat v) &&& 0x3f).toInt64))), .second] [(.int (6 : Int32)), (.long (Int64.ofNat (v / 64)))])) _
        refine XS.lshl X1.here hx rfl (hb hby d10_60) rfl ?_
        show Steps p.tables e below (T1.setTop (mkF m 61 #[.val (.ref S), .val (.long (Int64.ofNat frm)), .second, .val (.int (Int32.ofNat lev)), .val (.long (Int64.ofNat v)), .second, .val (.ref (xs lev)), .val (.int (Int32.ofNat (v / 64))), .val (.long ((f lev (v / 64)) &&& ((-1 : Int64) <<< ((Int32.ofNat v) &&& 0x3f).toInt64))), .second] [(.long ((Int64.ofNat (v / 64)) <<< ((6 : Int32) &&& 0x3f).toInt64))])) _
        rw [own_shl6 (i := v / 64) (by omega)]
        show Steps p.tables e below (T1.setTop (mkF m 61 #[.val (.ref S), .val (.long (Int64.ofNat frm)), .second, .val (.int (Int32.ofNat lev)), .val (.long (Int64.ofNat v)), .second, .val (.ref (xs lev)), .val (.int (Int32.ofNat (v / 64))), .val (.long ((f lev (v / 64)) &&& ((-1 : Int64) <<< ((Int32.ofNat v) &&& 0x3f).toInt64))), .second] [(.long (Int64.ofNat (64 * (v / 64))))])) _
        refine XS.lload X1.here hx rfl (hb hby d10_61) rfl ?_
        refine st15.trans ?_
        show Steps p.tables e below (T15.setTop (mkF m 66 #[.val (.ref S), .val (.long (Int64.ofNat frm)), .second, .val (.int (Int32.ofNat lev)), .val (.long (Int64.ofNat v)), .second, .val (.ref (xs lev)), .val (.int (Int32.ofNat (v / 64))), .val (.long ((f lev (v / 64)) &&& ((-1 : Int64) <<< ((Int32.ofNat v) &&& 0x3f).toInt64))), .second] [(.int (Int32.ofNat t15)), (.long (Int64.ofNat (64 * (v / 64))))])) _
        refine XS.i2l X15.here hx rfl (hb hby d10_66) rfl ?_
        show Steps p.tables e below (T15.setTop (mkF m 67 #[.val (.ref S), .val (.long (Int64.ofNat frm)), .second, .val (.int (Int32.ofNat lev)), .val (.long (Int64.ofNat v)), .second, .val (.ref (xs lev)), .val (.int (Int32.ofNat (v / 64))), .val (.long ((f lev (v / 64)) &&& ((-1 : Int64) <<< ((Int32.ofNat v) &&& 0x3f).toInt64))), .second] [(.long ((Int32.ofNat t15).toInt64)), (.long (Int64.ofNat (64 * (v / 64))))])) _
        rw [own_i2l (i := t15) (by omega)]
        show Steps p.tables e below (T15.setTop (mkF m 67 #[.val (.ref S), .val (.long (Int64.ofNat frm)), .second, .val (.int (Int32.ofNat lev)), .val (.long (Int64.ofNat v)), .second, .val (.ref (xs lev)), .val (.int (Int32.ofNat (v / 64))), .val (.long ((f lev (v / 64)) &&& ((-1 : Int64) <<< ((Int32.ofNat v) &&& 0x3f).toInt64))), .second] [(.long (Int64.ofNat t15)), (.long (Int64.ofNat (64 * (v / 64))))])) _
        refine XS.ladd X15.here hx rfl (hb hby d10_67) rfl ?_
        show Steps p.tables e below (T15.setTop (mkF m 68 #[.val (.ref S), .val (.long (Int64.ofNat frm)), .second, .val (.int (Int32.ofNat lev)), .val (.long (Int64.ofNat v)), .second, .val (.ref (xs lev)), .val (.int (Int32.ofNat (v / 64))), .val (.long ((f lev (v / 64)) &&& ((-1 : Int64) <<< ((Int32.ofNat v) &&& 0x3f).toInt64))), .second] [(.long ((Int64.ofNat (64 * (v / 64))) + (Int64.ofNat t15)))])) _
        rw [own_addL]
        show Steps p.tables e below (T15.setTop (mkF m 68 #[.val (.ref S), .val (.long (Int64.ofNat frm)), .second, .val (.int (Int32.ofNat lev)), .val (.long (Int64.ofNat v)), .second, .val (.ref (xs lev)), .val (.int (Int32.ofNat (v / 64))), .val (.long ((f lev (v / 64)) &&& ((-1 : Int64) <<< ((Int32.ofNat v) &&& 0x3f).toInt64))), .second] [(.long (Int64.ofNat (64 * (v / 64) + t15)))])) _
        refine XS.lstore X15.here hx rfl (hb hby d10_68) rfl (l' := #[.val (.ref S), .val (.long (Int64.ofNat frm)), .second, .val (.int (Int32.ofNat lev)), .val (.long (Int64.ofNat (64 * (v / 64) + t15))), .second, .val (.ref (xs lev)), .val (.int (Int32.ofNat (v / 64))), .val (.long ((f lev (v / 64)) &&& ((-1 : Int64) <<< ((Int32.ofNat v) &&& 0x3f).toInt64))), .second]) rfl ?_
        show Steps p.tables e below (T15.setTop (mkF m 70 #[.val (.ref S), .val (.long (Int64.ofNat frm)), .second, .val (.int (Int32.ofNat lev)), .val (.long (Int64.ofNat (64 * (v / 64) + t15))), .second, .val (.ref (xs lev)), .val (.int (Int32.ofNat (v / 64))), .val (.long ((f lev (v / 64)) &&& ((-1 : Int64) <<< ((Int32.ofNat v) &&& 0x3f).toInt64))), .second] [])) _
        refine XS.goto X15.here hx rfl (pc0 := 70) (pc' := 99) rfl (hb hby d10_70) (by decide) (by decide) ?_
        exact kt
      exact ⟨T15, X15, e15, Or.inl ⟨t15, hc5', ht15, ((own_bit_and _ _ _).mp hb15).1, .val (.ref (xs lev)), .val (.int (Int32.ofNat (v / 64))), .val (.long ((f lev (v / 64)) &&& ((-1 : Int64) <<< ((Int32.ofNat v) &&& 0x3f).toInt64))), .second, fun target kt => pre16 target kt⟩⟩
  · skip
    have hc5' : ¬ (v / 64) < (N lev) := fun q => hc5 ((own_ltI (by omega) (by omega)).mpr q)
    obtain ⟨T17, X17, e17, st17⟩ := getF X1 hx hZ hown (host := "") (Or.inl (hw _ (List.mem_of_getElem? (i := 15) rfl))) Via.refl e1 F_l (g := (mkF m 78 #[.val (.ref S), .val (.long (Int64.ofNat frm)), .second, .val (.int (Int32.ofNat (lev + 1))), .val (.long (Int64.ofNat v)), .second, .val (.ref (xs lev)), .val (.int (Int32.ofNat (v / 64))), .val (.long (0 : Int64)), .second] [(.ref S), (.int (Int32.ofNat (lev + 1)))])) rfl rfl (hb hby d10_78)
    obtain ⟨cl18, Ar18, -, Sa18, -⟩ := id R_s.lv
    have pre19 : ∀ t, Steps p.tables e below (T17.setTop (mkF m 82 #[.val (.ref S), .val (.long (Int64.ofNat frm)), .second, .val (.int (Int32.ofNat (lev + 1))), .val (.long (Int64.ofNat v)), .second, .val (.ref (xs lev)), .val (.int (Int32.ofNat (v / 64))), .val (.long (0 : Int64)), .second] [(.int (Int32.ofNat D)), (.int (Int32.ofNat (lev + 1)))])) t → Steps p.tables e below (T0.setTop (mkF m 5 #[.val (.ref S), .val (.long (Int64.ofNat frm)), .second, .val (.int (Int32.ofNat lev)), .val (.long (Int64.ofNat v)), .second, s6, s7, s8, s9] [])) t := by
      intro t kt
      refine pre4 t ?_
      show Steps p.tables e below (T1.setTop (mkF m 26 #[.val (.ref S), .val (.long (Int64.ofNat frm)), .second, .val (.int (Int32.ofNat lev)), .val (.long (Int64.ofNat v)), .second, .val (.ref (xs lev)), .val (.int (Int32.ofNat (v / 64))), s8, s9] [(.int (Int32.ofNat (N lev))), (.int (Int32.ofNat (v / 64)))])) _
      refine XS.icmpYes X1.here hx rfl (pc0 := 26) (pc' := 45) rfl (hb hby d10_26) rfl (flt hc5).2.1 (by decide) (by decide) ?_
      show Steps p.tables e below (T1.setTop (mkF m 45 #[.val (.ref S), .val (.long (Int64.ofNat frm)), .second, .val (.int (Int32.ofNat lev)), .val (.long (Int64.ofNat v)), .second, .val (.ref (xs lev)), .val (.int (Int32.ofNat (v / 64))), s8, s9] [])) _
      refine XS.lconst X1.here hx rfl (hb hby d10_45) ?_
      show Steps p.tables e below (T1.setTop (mkF m 46 #[.val (.ref S), .val (.long (Int64.ofNat frm)), .second, .val (.int (Int32.ofNat lev)), .val (.long (Int64.ofNat v)), .second, .val (.ref (xs lev)), .val (.int (Int32.ofNat (v / 64))), s8, s9] [(.long (0 : Int64))])) _
      refine XS.lstore X1.here hx rfl (hb hby d10_46) rfl (l' := #[.val (.ref S), .val (.long (Int64.ofNat frm)), .second, .val (.int (Int32.ofNat lev)), .val (.long (Int64.ofNat v)), .second, .val (.ref (xs lev)), .val (.int (Int32.ofNat (v / 64))), .val (.long (0 : Int64)), .second]) (own_twoS (s6 := .unset) hs8) ?_
      show Steps p.tables e below (T1.setTop (mkF m 48 #[.val (.ref S), .val (.long (Int64.ofNat frm)), .second, .val (.int (Int32.ofNat lev)), .val (.long (Int64.ofNat v)), .second, .val (.ref (xs lev)), .val (.int (Int32.ofNat (v / 64))), .val (.long (0 : Int64)), .second] [])) _
      refine XS.lload X1.here hx rfl (hb hby d10_48) rfl ?_
      show Steps p.tables e below (T1.setTop (mkF m 50 #[.val (.ref S), .val (.long (Int64.ofNat frm)), .second, .val (.int (Int32.ofNat lev)), .val (.long (Int64.ofNat v)), .second, .val (.ref (xs lev)), .val (.int (Int32.ofNat (v / 64))), .val (.long (0 : Int64)), .second] [(.long (0 : Int64))])) _
      refine XS.lconst X1.here hx rfl (hb hby d10_50) ?_
      show Steps p.tables e below (T1.setTop (mkF m 51 #[.val (.ref S), .val (.long (Int64.ofNat frm)), .second, .val (.int (Int32.ofNat lev)), .val (.long (Int64.ofNat v)), .second, .val (.ref (xs lev)), .val (.int (Int32.ofNat (v / 64))), .val (.long (0 : Int64)), .second] [(.long (0 : Int64)), (.long (0 : Int64))])) _
      refine XS.lcmp X1.here hx rfl (hb hby d10_51) rfl ?_
      show Steps p.tables e below (T1.setTop (mkF m 52 #[.val (.ref S), .val (.long (Int64.ofNat frm)), .second, .val (.int (Int32.ofNat lev)), .val (.long (Int64.ofNat v)), .second, .val (.ref (xs lev)), .val (.int (Int32.ofNat (v / 64))), .val (.long (0 : Int64)), .second] [(.int (lcmpW (0 : Int64) (0 : Int64)))])) _
      refine XS.ifYes X1.here hx rfl (pc0 := 52) (pc' := 73) rfl (hb hby d10_52) rfl ((if0 _ _).trans (teq ((own_lc0 _ _).mpr rfl)).1) (by decide) (by decide) ?_
      show Steps p.tables e below (T1.setTop (mkF m 73 #[.val (.ref S), .val (.long (Int64.ofNat frm)), .second, .val (.int (Int32.ofNat lev)), .val (.long (Int64.ofNat v)), .second, .val (.ref (xs lev)), .val (.int (Int32.ofNat (v / 64))), .val (.long (0 : Int64)), .second] [])) _
      refine XS.iinc X1.here hx rfl (hb hby d10_73) rfl (l' := #[.val (.ref S), .val (.long (Int64.ofNat frm)), .second, .val (.int ((Int32.ofNat lev) + (1 : Int32))), .val (.long (Int64.ofNat v)), .second, .val (.ref (xs lev)), .val (.int (Int32.ofNat (v / 64))), .val (.long (0 : Int64)), .second]) rfl ?_
      show Steps p.tables e below (T1.setTop (mkF m 76 #[.val (.ref S), .val (.long (Int64.ofNat frm)), .second, .val (.int ((Int32.ofNat lev) + (1 : Int32))), .val (.long (Int64.ofNat v)), .second, .val (.ref (xs lev)), .val (.int (Int32.ofNat (v / 64))), .val (.long (0 : Int64)), .second] [])) _
      rw [own_oneI]
      show Steps p.tables e below (T1.setTop (mkF m 76 #[.val (.ref S), .val (.long (Int64.ofNat frm)), .second, .val (.int (Int32.ofNat (lev + 1))), .val (.long (Int64.ofNat v)), .second, .val (.ref (xs lev)), .val (.int (Int32.ofNat (v / 64))), .val (.long (0 : Int64)), .second] [])) _
      refine XS.iloadN X1.here hx rfl (hb hby d10_76) rfl ?_
      show Steps p.tables e below (T1.setTop (mkF m 77 #[.val (.ref S), .val (.long (Int64.ofNat frm)), .second, .val (.int (Int32.ofNat (lev + 1))), .val (.long (Int64.ofNat v)), .second, .val (.ref (xs lev)), .val (.int (Int32.ofNat (v / 64))), .val (.long (0 : Int64)), .second] [(.int (Int32.ofNat (lev + 1)))])) _
      refine XS.aloadN X1.here hx rfl (hb hby d10_77) rfl rfl ?_
      show Steps p.tables e below (T1.setTop (mkF m 78 #[.val (.ref S), .val (.long (Int64.ofNat frm)), .second, .val (.int (Int32.ofNat (lev + 1))), .val (.long (Int64.ofNat v)), .second, .val (.ref (xs lev)), .val (.int (Int32.ofNat (v / 64))), .val (.long (0 : Int64)), .second] [(.ref S), (.int (Int32.ofNat (lev + 1)))])) _
      refine st17 _ ?_
      show Steps p.tables e below (T17.setTop (mkF m 81 #[.val (.ref S), .val (.long (Int64.ofNat frm)), .second, .val (.int (Int32.ofNat (lev + 1))), .val (.long (Int64.ofNat v)), .second, .val (.ref (xs lev)), .val (.int (Int32.ofNat (v / 64))), .val (.long (0 : Int64)), .second] [(.ref LV), (.int (Int32.ofNat (lev + 1)))])) _
      refine X17.arraylength hx (by rw [e17]; exact Ar18.1) (State.isArrayOf_alike hZ.alike Ar18.2.1) (g := (mkF m 81 #[.val (.ref S), .val (.long (Int64.ofNat frm)), .second, .val (.int (Int32.ofNat (lev + 1))), .val (.long (Int64.ofNat v)), .second, .val (.ref (xs lev)), .val (.int (Int32.ofNat (v / 64))), .val (.long (0 : Int64)), .second] [(.ref LV), (.int (Int32.ofNat (lev + 1)))])) rfl rfl (hb hby d10_81) _ ?_
      rw [own_len Sa18]
      exact kt
    by_cases hc20 : (Int32.ofNat (lev + 1)) = (Int32.ofNat D)
    · skip
      have hc20' : (lev + 1) = D := (own_inj (by omega) (by omega)).mp hc20
      have pre21 : ∀ t, Steps p.tables e below (T17.setTop (mkF m 88 #[.val (.ref S), .val (.long (Int64.ofNat frm)), .second, .val (.int (Int32.ofNat (lev + 1))), .val (.long (Int64.ofNat v)), .second, .val (.ref (xs lev)), .val (.int (Int32.ofNat (v / 64))), .val (.long (0 : Int64)), .second] [(.long (-1 : Int64))])) t → Steps p.tables e below (T0.setTop (mkF m 5 #[.val (.ref S), .val (.long (Int64.ofNat frm)), .second, .val (.int (Int32.ofNat lev)), .val (.long (Int64.ofNat v)), .second, s6, s7, s8, s9] [])) t := by
        intro t kt
        refine pre19 t ?_
        show Steps p.tables e below (T17.setTop (mkF m 82 #[.val (.ref S), .val (.long (Int64.ofNat frm)), .second, .val (.int (Int32.ofNat (lev + 1))), .val (.long (Int64.ofNat v)), .second, .val (.ref (xs lev)), .val (.int (Int32.ofNat (v / 64))), .val (.long (0 : Int64)), .second] [(.int (Int32.ofNat D)), (.int (Int32.ofNat (lev + 1)))])) _
        refine XS.icmpNo X17.here hx rfl (hb hby d10_82) rfl (teq hc20).2 ?_
        show Steps p.tables e below (T17.setTop (mkF m 85 #[.val (.ref S), .val (.long (Int64.ofNat frm)), .second, .val (.int (Int32.ofNat (lev + 1))), .val (.long (Int64.ofNat v)), .second, .val (.ref (xs lev)), .val (.int (Int32.ofNat (v / 64))), .val (.long (0 : Int64)), .second] [])) _
        refine X17.ldc2Long hx hown (mvT hZ (hw _ (List.mem_of_getElem? (i := 56) rfl))) (g := (mkF m 85 #[.val (.ref S), .val (.long (Int64.ofNat frm)), .second, .val (.int (Int32.ofNat (lev + 1))), .val (.long (Int64.ofNat v)), .second, .val (.ref (xs lev)), .val (.int (Int32.ofNat (v / 64))), .val (.long (0 : Int64)), .second] [])) rfl (hb hby d10_85) _ ?_
        exact kt
      exact ⟨T17, X17, e17, Or.inr (Or.inl ⟨(fun q => absurd q hc5'), hc20', _, fun target kt => pre21 target kt⟩)⟩
    · skip
      have hc20' : ¬ (lev + 1) = D := fun q => hc20 ((own_inj (by omega) (by omega)).mpr q)
      have pre22 : ∀ t, Steps p.tables e below (T17.setTop (mkF m 5 #[.val (.ref S), .val (.long (Int64.ofNat frm)), .second, .val (.int (Int32.ofNat (lev + 1))), .val (.long (Int64.ofNat (v / 64 + 1))), .second, .val (.ref (xs lev)), .val (.int (Int32.ofNat (v / 64))), .val (.long (0 : Int64)), .second] [])) t → Steps p.tables e below (T0.setTop (mkF m 5 #[.val (.ref S), .val (.long (Int64.ofNat frm)), .second, .val (.int (Int32.ofNat lev)), .val (.long (Int64.ofNat v)), .second, s6, s7, s8, s9] [])) t := by
        intro t kt
        refine pre19 t ?_
        show Steps p.tables e below (T17.setTop (mkF m 82 #[.val (.ref S), .val (.long (Int64.ofNat frm)), .second, .val (.int (Int32.ofNat (lev + 1))), .val (.long (Int64.ofNat v)), .second, .val (.ref (xs lev)), .val (.int (Int32.ofNat (v / 64))), .val (.long (0 : Int64)), .second] [(.int (Int32.ofNat D)), (.int (Int32.ofNat (lev + 1)))])) _
        refine XS.icmpYes X17.here hx rfl (pc0 := 82) (pc' := 89) rfl (hb hby d10_82) rfl (feq hc20).2 (by decide) (by decide) ?_
        show Steps p.tables e below (T17.setTop (mkF m 89 #[.val (.ref S), .val (.long (Int64.ofNat frm)), .second, .val (.int (Int32.ofNat (lev + 1))), .val (.long (Int64.ofNat v)), .second, .val (.ref (xs lev)), .val (.int (Int32.ofNat (v / 64))), .val (.long (0 : Int64)), .second] [])) _
        refine XS.iload X17.here hx rfl (hb hby d10_89) rfl ?_
        show Steps p.tables e below (T17.setTop (mkF m 91 #[.val (.ref S), .val (.long (Int64.ofNat frm)), .second, .val (.int (Int32.ofNat (lev + 1))), .val (.long (Int64.ofNat v)), .second, .val (.ref (xs lev)), .val (.int (Int32.ofNat (v / 64))), .val (.long (0 : Int64)), .second] [(.int (Int32.ofNat (v / 64)))])) _
        refine XS.i2l X17.here hx rfl (hb hby d10_91) rfl ?_
        show Steps p.tables e below (T17.setTop (mkF m 92 #[.val (.ref S), .val (.long (Int64.ofNat frm)), .second, .val (.int (Int32.ofNat (lev + 1))), .val (.long (Int64.ofNat v)), .second, .val (.ref (xs lev)), .val (.int (Int32.ofNat (v / 64))), .val (.long (0 : Int64)), .second] [(.long ((Int32.ofNat (v / 64)).toInt64))])) _
        rw [own_i2l (i := (v / 64)) (by omega)]
        show Steps p.tables e below (T17.setTop (mkF m 92 #[.val (.ref S), .val (.long (Int64.ofNat frm)), .second, .val (.int (Int32.ofNat (lev + 1))), .val (.long (Int64.ofNat v)), .second, .val (.ref (xs lev)), .val (.int (Int32.ofNat (v / 64))), .val (.long (0 : Int64)), .second] [(.long (Int64.ofNat (v / 64)))])) _
        refine XS.lconst X17.here hx rfl (hb hby d10_92) ?_
        show Steps p.tables e below (T17.setTop (mkF m 93 #[.val (.ref S), .val (.long (Int64.ofNat frm)), .second, .val (.int (Int32.ofNat (lev + 1))), .val (.long (Int64.ofNat v)), .second, .val (.ref (xs lev)), .val (.int (Int32.ofNat (v / 64))), .val (.long (0 : Int64)), .second] [(.long (1 : Int64)), (.long (Int64.ofNat (v / 64)))])) _
        refine XS.ladd X17.here hx rfl (hb hby d10_93) rfl ?_
        show Steps p.tables e below (T17.setTop (mkF m 94 #[.val (.ref S), .val (.long (Int64.ofNat frm)), .second, .val (.int (Int32.ofNat (lev + 1))), .val (.long (Int64.ofNat v)), .second, .val (.ref (xs lev)), .val (.int (Int32.ofNat (v / 64))), .val (.long (0 : Int64)), .second] [(.long ((Int64.ofNat (v / 64)) + (1 : Int64)))])) _
        rw [own_addL1]
        show Steps p.tables e below (T17.setTop (mkF m 94 #[.val (.ref S), .val (.long (Int64.ofNat frm)), .second, .val (.int (Int32.ofNat (lev + 1))), .val (.long (Int64.ofNat v)), .second, .val (.ref (xs lev)), .val (.int (Int32.ofNat (v / 64))), .val (.long (0 : Int64)), .second] [(.long (Int64.ofNat (v / 64 + 1)))])) _
        refine XS.lstore X17.here hx rfl (hb hby d10_94) rfl (l' := #[.val (.ref S), .val (.long (Int64.ofNat frm)), .second, .val (.int (Int32.ofNat (lev + 1))), .val (.long (Int64.ofNat (v / 64 + 1))), .second, .val (.ref (xs lev)), .val (.int (Int32.ofNat (v / 64))), .val (.long (0 : Int64)), .second]) rfl ?_
        show Steps p.tables e below (T17.setTop (mkF m 96 #[.val (.ref S), .val (.long (Int64.ofNat frm)), .second, .val (.int (Int32.ofNat (lev + 1))), .val (.long (Int64.ofNat (v / 64 + 1))), .second, .val (.ref (xs lev)), .val (.int (Int32.ofNat (v / 64))), .val (.long (0 : Int64)), .second] [])) _
        refine XS.goto X17.here hx rfl (pc0 := 96) (pc' := 5) rfl (hb hby d10_96) (by decide) (by decide) ?_
        exact kt
      exact ⟨T17, X17, e17, Or.inr (Or.inr ⟨(fun q => absurd q hc5'), hc20', .val (.ref (xs lev)), .val (.int (Int32.ofNat (v / 64))), .val (.long (0 : Int64)), .second, One.val rfl, One.val rfl, Or.inr ⟨_, rfl, rfl⟩, fun target kt => pre22 target kt⟩)⟩
theorem d10_99 : decode prog_103_method_6_code 99 = .ok (.iload_n 3, 1) := by decide +kernel
theorem d10_100 : decode prog_103_method_6_code 100 = .ok (.ifCond .le 31, 3) := by decide +kernel
theorem d10_103 : decode prog_103_method_6_code 103 = .ok (.iinc 3 (-1), 3) := by decide +kernel
theorem d10_106 : decode prog_103_method_6_code 106 = .ok (.lload 4, 2) := by decide +kernel
theorem d10_108 : decode prog_103_method_6_code 108 = .ok (.bipush 6, 2) := by decide +kernel
theorem d10_110 : decode prog_103_method_6_code 110 = .ok (.lshl, 1) := by decide +kernel
theorem d10_111 : decode prog_103_method_6_code 111 = .ok (.aload_n 0, 1) := by decide +kernel
theorem d10_112 : decode prog_103_method_6_code 112 = .ok (.getfield 32, 3) := by decide +kernel
theorem d10_115 : decode prog_103_method_6_code 115 = .ok (.iload_n 3, 1) := by decide +kernel
theorem d10_116 : decode prog_103_method_6_code 116 = .ok (.aaload, 1) := by decide +kernel
theorem d10_117 : decode prog_103_method_6_code 117 = .ok (.lload 4, 2) := by decide +kernel
theorem d10_119 : decode prog_103_method_6_code 119 = .ok (.l2i, 1) := by decide +kernel
theorem d10_120 : decode prog_103_method_6_code 120 = .ok (.laload, 1) := by decide +kernel
theorem d10_121 : decode prog_103_method_6_code 121 = .ok (.invokestatic 66, 3) := by decide +kernel
theorem d10_124 : decode prog_103_method_6_code 124 = .ok (.i2l, 1) := by decide +kernel
theorem d10_125 : decode prog_103_method_6_code 125 = .ok (.ladd, 1) := by decide +kernel
theorem d10_126 : decode prog_103_method_6_code 126 = .ok (.lstore 4, 2) := by decide +kernel
theorem d10_128 : decode prog_103_method_6_code 128 = .ok (.goto (-29), 3) := by decide +kernel
set_option maxRecDepth 65536 in
set_option maxHeartbeats 40000000 in
theorem nxD {p : Program} {l : Launch} {e : Env} {s : State} {m : MethodId} {args : Array Value} {below : List Frame} {meth : Method} {c : Code} {T0 : State} {locs : List Loc} {cells slots : Nat} {Z : State} {a0 : Array Value} {h0 : Heap} (n0 : Nat) (S LV : Addr) (kV : ClassId) (D : Nat) (xs : Nat → Addr) (ks : Nat → ClassId) (N : Nat → Nat) (f : Nat → Nat → Int64) (sI : Int32) (af : Int64) (frm v lev : Nat) (s6 s7 s8 s9 : Slot) (X0 : Stand p l e ({ frames := 2, cells := 0, slots := 0, locals := 30 } : Room) s m args below meth c T0 locs cells slots) (hx : p.tables.exec = Jvm.exec) (hZ : Z.Warmed39 s.vm) (hw : ∀ d ∈ tables_1, d.before a0 Z = true) (hby : c.code = prog_103_method_6_code) (hml : c.maxLocals = 10) (hown : s.vm.findClass "com/example/halfword/halfword/verify/RoundRobinSet" = some m.cls) (e0 : T0.heap = h0) (hcl : cells ≤ 0) (hsl : slots ≤ 0) (R_s : RS Z h0 n0 S LV kV D xs ks N f sI af) (hl : lev < D) (hD : D ≤ 4) (hv : v ≤ 1048600) (hN : N lev ≤ 16384) (hk : v < N lev) (hnz : f lev v ≠ 0) :
    ∃ T' : State, Stand p l e ({ frames := 2, cells := 0, slots := 0, locals := 30 } : Room) s m args below meth c T' locs cells slots ∧ T'.heap = h0 ∧ ∃ t, t < 64 ∧ bit (f lev v) t ∧ ∀ target, Steps p.tables e below (T'.setTop (mkF m 99 #[.val (.ref S), .val (.long (Int64.ofNat frm)), .second, .val (.int (Int32.ofNat lev)), .val (.long (Int64.ofNat (64 * v + t))), .second, s6, s7, s8, s9] [])) target → Steps p.tables e below (T0.setTop (mkF m 99 #[.val (.ref S), .val (.long (Int64.ofNat frm)), .second, .val (.int (Int32.ofNat (lev + 1))), .val (.long (Int64.ofNat v)), .second, s6, s7, s8, s9] [])) target := by
  have pre0 : ∀ t, Steps p.tables e below (T0.setTop (mkF m 99 #[.val (.ref S), .val (.long (Int64.ofNat frm)), .second, .val (.int (Int32.ofNat (lev + 1))), .val (.long (Int64.ofNat v)), .second, s6, s7, s8, s9] [])) t → Steps p.tables e below (T0.setTop (mkF m 99 #[.val (.ref S), .val (.long (Int64.ofNat frm)), .second, .val (.int (Int32.ofNat (lev + 1))), .val (.long (Int64.ofNat v)), .second, s6, s7, s8, s9] [])) t := fun _ k => k
  have F_l := R_s.fl
  obtain ⟨T1, X1, e1, st1⟩ := getF X0 hx hZ hown (host := "") (Or.inl (hw _ (List.mem_of_getElem? (i := 15) rfl))) Via.refl e0 F_l (g := (mkF m 112 #[.val (.ref S), .val (.long (Int64.ofNat frm)), .second, .val (.int (Int32.ofNat lev)), .val (.long (Int64.ofNat v)), .second, s6, s7, s8, s9] [(.ref S), (.long (Int64.ofNat (64 * v)))])) rfl rfl (hb hby d10_112)
  obtain ⟨cl2, Ar2, qa2, Sa2, Ha2⟩ := id R_s.lv
  have hin2 : ¬ ((Int32.ofNat lev) < 0 ∨ cl2.slots.size ≤ (Int32.ofNat lev).toNatClampNeg) := own_inb Sa2 hl (show D < 2147483648 by omega)
  have hat2 : cl2.slots[(Int32.ofNat lev).toNatClampNeg]? = some (.ref (xs lev)) := by rw [own_cl (Nat.lt_trans hl (show D < 2147483648 by omega))]; exact Ha2 lev hl
  obtain ⟨cl3, Ar3, qa3, Sa3, Ha3⟩ := id (R_s.la lev hl)
  have hin3 : ¬ ((Int32.ofNat v) < 0 ∨ cl3.slots.size ≤ (Int32.ofNat v).toNatClampNeg) := own_inb Sa3 hk (show N lev < 2147483648 by omega)
  have hat3 : cl3.slots[(Int32.ofNat v).toNatClampNeg]? = some (.long (f lev v)) := by rw [own_cl (Nat.lt_trans hk (show N lev < 2147483648 by omega))]; exact Ha3 v hk
  obtain ⟨t4, ht4, hb4, et4⟩ := own_ntz (w := (f lev v)) hnz
  obtain ⟨v4, T4, X4, ⟨rfl, e4⟩, st4⟩ := X1.callS hx (Jvm.Free.JP.Long_numberOfTrailingZeros_J.law l (f lev v)) hown (fun w h => by rcases List.mem_cons.mp h with rfl | h; exact mvT hZ (hw _ (List.mem_of_getElem? (i := 57) rfl)); rcases List.mem_cons.mp h with rfl | h; exact mvT hZ (hw _ (List.mem_of_getElem? (i := 58) rfl)); cases h) (own_ntz_tab hZ hw) (W := 2) (by decide) (by decide) (show cells + 0 ≤ 0 from hcl) (show slots + 0 ≤ 0 from hsl) (g := (mkF m 121 #[.val (.ref S), .val (.long (Int64.ofNat frm)), .second, .val (.int (Int32.ofNat lev)), .val (.long (Int64.ofNat v)), .second, s6, s7, s8, s9] [(.long (f lev v)), (.long (Int64.ofNat (64 * v)))])) rfl (by rw [hml]; rfl) (Steps.refl _) (argsL := [(.long (f lev v))]) (rest := [(.long (Int64.ofNat (64 * v)))]) rfl rfl (by show 2 * 0 + _ ≤ _; exact Nat.le_of_eq rfl) (hb hby d10_121) ⟨rfl, trivial⟩
  rw [et4] at st4
  have e4 : T4.heap = h0 := e4.trans e1
  rw [List.append_nil] at X4
  have pre5 : ∀ t, Steps p.tables e below (T4.setTop (mkF m 99 #[.val (.ref S), .val (.long (Int64.ofNat frm)), .second, .val (.int (Int32.ofNat lev)), .val (.long (Int64.ofNat (64 * v + t4))), .second, s6, s7, s8, s9] [])) t → Steps p.tables e below (T0.setTop (mkF m 99 #[.val (.ref S), .val (.long (Int64.ofNat frm)), .second, .val (.int (Int32.ofNat (lev + 1))), .val (.long (Int64.ofNat v)), .second, s6, s7, s8, s9] [])) t := by
    intro t kt
    refine pre0 t ?_
    show Steps p.tables e below (T0.setTop (mkF m 99 #[.val (.ref S), .val (.long (Int64.ofNat frm)), .second, .val (.int (Int32.ofNat (lev + 1))), .val (.long (Int64.ofNat v)), .second, s6, s7, s8, s9] [])) _
    refine XS.iloadN X0.here hx rfl (hb hby d10_99) rfl ?_
    show Steps p.tables e below (T0.setTop (mkF m 100 #[.val (.ref S), .val (.long (Int64.ofNat frm)), .second, .val (.int (Int32.ofNat (lev + 1))), .val (.long (Int64.ofNat v)), .second, s6, s7, s8, s9] [(.int (Int32.ofNat (lev + 1)))])) _
    refine XS.ifNo X0.here hx rfl (hb hby d10_100) rfl ((if0 _ _).trans (tlt (show (0 : Int32) < Int32.ofNat (lev + 1) from (own_ltI (i := 0) (by omega) (by omega)).mpr (by omega))).2.2.2) ?_
    show Steps p.tables e below (T0.setTop (mkF m 103 #[.val (.ref S), .val (.long (Int64.ofNat frm)), .second, .val (.int (Int32.ofNat (lev + 1))), .val (.long (Int64.ofNat v)), .second, s6, s7, s8, s9] [])) _
    refine XS.iinc X0.here hx rfl (hb hby d10_103) rfl (l' := #[.val (.ref S), .val (.long (Int64.ofNat frm)), .second, .val (.int ((Int32.ofNat (lev + 1)) + (-1 : Int32))), .val (.long (Int64.ofNat v)), .second, s6, s7, s8, s9]) rfl ?_
    show Steps p.tables e below (T0.setTop (mkF m 106 #[.val (.ref S), .val (.long (Int64.ofNat frm)), .second, .val (.int ((Int32.ofNat (lev + 1)) + (-1 : Int32))), .val (.long (Int64.ofNat v)), .second, s6, s7, s8, s9] [])) _
    rw [own_down1]
    show Steps p.tables e below (T0.setTop (mkF m 106 #[.val (.ref S), .val (.long (Int64.ofNat frm)), .second, .val (.int (Int32.ofNat lev)), .val (.long (Int64.ofNat v)), .second, s6, s7, s8, s9] [])) _
    refine XS.lload X0.here hx rfl (hb hby d10_106) rfl ?_
    show Steps p.tables e below (T0.setTop (mkF m 108 #[.val (.ref S), .val (.long (Int64.ofNat frm)), .second, .val (.int (Int32.ofNat lev)), .val (.long (Int64.ofNat v)), .second, s6, s7, s8, s9] [(.long (Int64.ofNat v))])) _
    refine XS.bipush X0.here hx rfl (hb hby d10_108) ?_
    show Steps p.tables e below (T0.setTop (mkF m 110 #[.val (.ref S), .val (.long (Int64.ofNat frm)), .second, .val (.int (Int32.ofNat lev)), .val (.long (Int64.ofNat v)), .second, s6, s7, s8, s9] [(.int (6 : Int32)), (.long (Int64.ofNat v))])) _
    refine XS.lshl X0.here hx rfl (hb hby d10_110) rfl ?_
    show Steps p.tables e below (T0.setTop (mkF m 111 #[.val (.ref S), .val (.long (Int64.ofNat frm)), .second, .val (.int (Int32.ofNat lev)), .val (.long (Int64.ofNat v)), .second, s6, s7, s8, s9] [(.long ((Int64.ofNat v) <<< ((6 : Int32) &&& 0x3f).toInt64))])) _
    rw [own_shl6 (i := v) (by omega)]
    show Steps p.tables e below (T0.setTop (mkF m 111 #[.val (.ref S), .val (.long (Int64.ofNat frm)), .second, .val (.int (Int32.ofNat lev)), .val (.long (Int64.ofNat v)), .second, s6, s7, s8, s9] [(.long (Int64.ofNat (64 * v)))])) _
    refine XS.aloadN X0.here hx rfl (hb hby d10_111) rfl rfl ?_
    show Steps p.tables e below (T0.setTop (mkF m 112 #[.val (.ref S), .val (.long (Int64.ofNat frm)), .second, .val (.int (Int32.ofNat lev)), .val (.long (Int64.ofNat v)), .second, s6, s7, s8, s9] [(.ref S), (.long (Int64.ofNat (64 * v)))])) _
    refine st1 _ ?_
    show Steps p.tables e below (T1.setTop (mkF m 115 #[.val (.ref S), .val (.long (Int64.ofNat frm)), .second, .val (.int (Int32.ofNat lev)), .val (.long (Int64.ofNat v)), .second, s6, s7, s8, s9] [(.ref LV), (.long (Int64.ofNat (64 * v)))])) _
    refine XS.iloadN X1.here hx rfl (hb hby d10_115) rfl ?_
    show Steps p.tables e below (T1.setTop (mkF m 116 #[.val (.ref S), .val (.long (Int64.ofNat frm)), .second, .val (.int (Int32.ofNat lev)), .val (.long (Int64.ofNat v)), .second, s6, s7, s8, s9] [(.int (Int32.ofNat lev)), (.ref LV), (.long (Int64.ofNat (64 * v)))])) _
    refine X1.aaload hx (j := (Int32.ofNat lev)) (v := (.ref (xs lev))) (by rw [e1]; exact Ar2.1) (State.isArrayOf_alike hZ.alike Ar2.2.1) rfl Ar2.2.2 hin2 hat2 (g := (mkF m 116 #[.val (.ref S), .val (.long (Int64.ofNat frm)), .second, .val (.int (Int32.ofNat lev)), .val (.long (Int64.ofNat v)), .second, s6, s7, s8, s9] [(.int (Int32.ofNat lev)), (.ref LV), (.long (Int64.ofNat (64 * v)))])) rfl rfl (hb hby d10_116) _ ?_
    show Steps p.tables e below (T1.setTop (mkF m 117 #[.val (.ref S), .val (.long (Int64.ofNat frm)), .second, .val (.int (Int32.ofNat lev)), .val (.long (Int64.ofNat v)), .second, s6, s7, s8, s9] [(.ref (xs lev)), (.long (Int64.ofNat (64 * v)))])) _
    refine XS.lload X1.here hx rfl (hb hby d10_117) rfl ?_
    show Steps p.tables e below (T1.setTop (mkF m 119 #[.val (.ref S), .val (.long (Int64.ofNat frm)), .second, .val (.int (Int32.ofNat lev)), .val (.long (Int64.ofNat v)), .second, s6, s7, s8, s9] [(.long (Int64.ofNat v)), (.ref (xs lev)), (.long (Int64.ofNat (64 * v)))])) _
    refine XS.l2i X1.here hx rfl (hb hby d10_119) rfl ?_
    show Steps p.tables e below (T1.setTop (mkF m 120 #[.val (.ref S), .val (.long (Int64.ofNat frm)), .second, .val (.int (Int32.ofNat lev)), .val (.long (Int64.ofNat v)), .second, s6, s7, s8, s9] [(.int ((Int64.ofNat v).toInt32)), (.ref (xs lev)), (.long (Int64.ofNat (64 * v)))])) _
    rw [own_l2i (i := v) (by omega)]
    show Steps p.tables e below (T1.setTop (mkF m 120 #[.val (.ref S), .val (.long (Int64.ofNat frm)), .second, .val (.int (Int32.ofNat lev)), .val (.long (Int64.ofNat v)), .second, s6, s7, s8, s9] [(.int (Int32.ofNat v)), (.ref (xs lev)), (.long (Int64.ofNat (64 * v)))])) _
    refine X1.laload hx (j := (Int32.ofNat v)) (v := (.long (f lev v))) (by rw [e1]; exact Ar3.1) (State.isArrayOf_alike hZ.alike Ar3.2.1) Ar3.2.2 hin3 hat3 (g := (mkF m 120 #[.val (.ref S), .val (.long (Int64.ofNat frm)), .second, .val (.int (Int32.ofNat lev)), .val (.long (Int64.ofNat v)), .second, s6, s7, s8, s9] [(.int (Int32.ofNat v)), (.ref (xs lev)), (.long (Int64.ofNat (64 * v)))])) rfl rfl (hb hby d10_120) _ ?_
    refine st4.trans ?_
    show Steps p.tables e below (T4.setTop (mkF m 124 #[.val (.ref S), .val (.long (Int64.ofNat frm)), .second, .val (.int (Int32.ofNat lev)), .val (.long (Int64.ofNat v)), .second, s6, s7, s8, s9] [(.int (Int32.ofNat t4)), (.long (Int64.ofNat (64 * v)))])) _
    refine XS.i2l X4.here hx rfl (hb hby d10_124) rfl ?_
    show Steps p.tables e below (T4.setTop (mkF m 125 #[.val (.ref S), .val (.long (Int64.ofNat frm)), .second, .val (.int (Int32.ofNat lev)), .val (.long (Int64.ofNat v)), .second, s6, s7, s8, s9] [(.long ((Int32.ofNat t4).toInt64)), (.long (Int64.ofNat (64 * v)))])) _
    rw [own_i2l (i := t4) (by omega)]
    show Steps p.tables e below (T4.setTop (mkF m 125 #[.val (.ref S), .val (.long (Int64.ofNat frm)), .second, .val (.int (Int32.ofNat lev)), .val (.long (Int64.ofNat v)), .second, s6, s7, s8, s9] [(.long (Int64.ofNat t4)), (.long (Int64.ofNat (64 * v)))])) _
    refine XS.ladd X4.here hx rfl (hb hby d10_125) rfl ?_
    show Steps p.tables e below (T4.setTop (mkF m 126 #[.val (.ref S), .val (.long (Int64.ofNat frm)), .second, .val (.int (Int32.ofNat lev)), .val (.long (Int64.ofNat v)), .second, s6, s7, s8, s9] [(.long ((Int64.ofNat (64 * v)) + (Int64.ofNat t4)))])) _
    rw [own_addL]
    show Steps p.tables e below (T4.setTop (mkF m 126 #[.val (.ref S), .val (.long (Int64.ofNat frm)), .second, .val (.int (Int32.ofNat lev)), .val (.long (Int64.ofNat v)), .second, s6, s7, s8, s9] [(.long (Int64.ofNat (64 * v + t4)))])) _
    refine XS.lstore X4.here hx rfl (hb hby d10_126) rfl (l' := #[.val (.ref S), .val (.long (Int64.ofNat frm)), .second, .val (.int (Int32.ofNat lev)), .val (.long (Int64.ofNat (64 * v + t4))), .second, s6, s7, s8, s9]) rfl ?_
    show Steps p.tables e below (T4.setTop (mkF m 128 #[.val (.ref S), .val (.long (Int64.ofNat frm)), .second, .val (.int (Int32.ofNat lev)), .val (.long (Int64.ofNat (64 * v + t4))), .second, s6, s7, s8, s9] [])) _
    refine XS.goto X4.here hx rfl (pc0 := 128) (pc' := 99) rfl (hb hby d10_128) (by decide) (by decide) ?_
    exact kt
  exact ⟨T4, X4, e4, t4, ht4, hb4, fun target kt => pre5 target kt⟩
theorem d10_131 : decode prog_103_method_6_code 131 = .ok (.lload 4, 2) := by decide +kernel
set_option maxRecDepth 65536 in
set_option maxHeartbeats 40000000 in
theorem nxE {p : Program} {l : Launch} {e : Env} {s : State} {m : MethodId} {args : Array Value} {below : List Frame} {meth : Method} {c : Code} {T0 : State} {locs : List Loc} {cells slots : Nat} {Z : State} {a0 : Array Value} {h0 : Heap} (S : Addr) (frm v : Nat) (s6 s7 s8 s9 : Slot) (X0 : Stand p l e ({ frames := 2, cells := 0, slots := 0, locals := 30 } : Room) s m args below meth c T0 locs cells slots) (hx : p.tables.exec = Jvm.exec) (hZ : Z.Warmed39 s.vm) (hw : ∀ d ∈ tables_1, d.before a0 Z = true) (hby : c.code = prog_103_method_6_code) (hml : c.maxLocals = 10) (hown : s.vm.findClass "com/example/halfword/halfword/verify/RoundRobinSet" = some m.cls) (e0 : T0.heap = h0)  :
    ∃ T' : State, Stand p l e ({ frames := 2, cells := 0, slots := 0, locals := 30 } : Room) s m args below meth c T' locs cells slots ∧ T'.heap = h0 ∧ ∃ Ls, ∀ target, Steps p.tables e below (T'.setTop (mkF m 133 Ls [.long (Int64.ofNat v)])) target → Steps p.tables e below (T0.setTop (mkF m 99 #[.val (.ref S), .val (.long (Int64.ofNat frm)), .second, .val (.int (Int32.ofNat 0)), .val (.long (Int64.ofNat v)), .second, s6, s7, s8, s9] [])) target := by
  have pre0 : ∀ t, Steps p.tables e below (T0.setTop (mkF m 99 #[.val (.ref S), .val (.long (Int64.ofNat frm)), .second, .val (.int (Int32.ofNat 0)), .val (.long (Int64.ofNat v)), .second, s6, s7, s8, s9] [])) t → Steps p.tables e below (T0.setTop (mkF m 99 #[.val (.ref S), .val (.long (Int64.ofNat frm)), .second, .val (.int (Int32.ofNat 0)), .val (.long (Int64.ofNat v)), .second, s6, s7, s8, s9] [])) t := fun _ k => k
  have pre1 : ∀ t, Steps p.tables e below (T0.setTop (mkF m 133 #[.val (.ref S), .val (.long (Int64.ofNat frm)), .second, .val (.int (Int32.ofNat 0)), .val (.long (Int64.ofNat v)), .second, s6, s7, s8, s9] [(.long (Int64.ofNat v))])) t → Steps p.tables e below (T0.setTop (mkF m 99 #[.val (.ref S), .val (.long (Int64.ofNat frm)), .second, .val (.int (Int32.ofNat 0)), .val (.long (Int64.ofNat v)), .second, s6, s7, s8, s9] [])) t := by
    intro t kt
    refine pre0 t ?_
    show Steps p.tables e below (T0.setTop (mkF m 99 #[.val (.ref S), .val (.long (Int64.ofNat frm)), .second, .val (.int (Int32.ofNat 0)), .val (.long (Int64.ofNat v)), .second, s6, s7, s8, s9] [])) _
    refine XS.iloadN X0.here hx rfl (hb hby d10_99) rfl ?_
    show Steps p.tables e below (T0.setTop (mkF m 100 #[.val (.ref S), .val (.long (Int64.ofNat frm)), .second, .val (.int (Int32.ofNat 0)), .val (.long (Int64.ofNat v)), .second, s6, s7, s8, s9] [(.int (Int32.ofNat 0))])) _
    refine XS.ifYes X0.here hx rfl (pc0 := 100) (pc' := 131) rfl (hb hby d10_100) rfl ((if0 _ _).trans (flt (show ¬ (0 : Int32) < Int32.ofNat 0 by decide)).2.2.2) (by decide) (by decide) ?_
    show Steps p.tables e below (T0.setTop (mkF m 131 #[.val (.ref S), .val (.long (Int64.ofNat frm)), .second, .val (.int (Int32.ofNat 0)), .val (.long (Int64.ofNat v)), .second, s6, s7, s8, s9] [])) _
    refine XS.lload X0.here hx rfl (hb hby d10_131) rfl ?_
    exact kt
  exact ⟨T0, X0, e0, _, fun target kt => pre1 target kt⟩
theorem d10_88 : decode prog_103_method_6_code 88 = .ok (.lreturn, 1) := by decide +kernel
theorem d10_133 : decode prog_103_method_6_code 133 = .ok (.lreturn, 1) := by decide +kernel
set_option maxRecDepth 65536 in
set_option maxHeartbeats 40000000 in
theorem nxDL {p : Program} {l : Launch} {e : Env} {s : State} {m : MethodId} {args : Array Value} {below : List Frame} {meth : Method} {c : Code} {cells slots : Nat} {Z : State} {a0 : Array Value} {h0 : Heap} {locs : List Loc} (n0 : Nat) (S LV : Addr) (kV : ClassId) (D : Nat) (xs : Nat → Addr) (ks : Nat → ClassId) (N : Nat → Nat) (f : Nat → Nat → Int64) (sI : Int32) (af : Int64) (frm : Nat) (s6 s7 s8 s9 : Slot) (M : Nat → Prop) (sz : Nat) (hx : p.tables.exec = Jvm.exec) (hZ : Z.Warmed39 s.vm) (hw : ∀ d ∈ tables_1, d.before a0 Z = true) (hby : c.code = prog_103_method_6_code) (hml : c.maxLocals = 10) (hown : s.vm.findClass "com/example/halfword/halfword/verify/RoundRobinSet" = some m.cls) (hcl : cells ≤ 0) (hsl : slots ≤ 0) (R_s : RS Z h0 n0 S LV kV D xs ks N f sI af) (Sh : Shp sz D N) (hsz : ∀ e, M e → e < sz) (B : Bt D N f (Lv M)) :
    ∀ (lev v : Nat) (T0 : State), lev < D → Lv M lev v → Stand p l e ({ frames := 2, cells := 0, slots := 0, locals := 30 } : Room) s m args below meth c T0 locs cells slots → T0.heap = h0 →
      ∃ (T' : State) (x : Nat), Stand p l e ({ frames := 2, cells := 0, slots := 0, locals := 30 } : Room) s m args below meth c T' locs cells slots ∧ T'.heap = h0 ∧ M x ∧ ∃ Ls, ∀ target, Steps p.tables e below (T'.setTop (mkF m 133 Ls [.long (Int64.ofNat x)])) target → Steps p.tables e below (T0.setTop (mkF m 99 #[.val (.ref S), .val (.long (Int64.ofNat frm)), .second, .val (.int (Int32.ofNat lev)), .val (.long (Int64.ofNat v)), .second, s6, s7, s8, s9] [])) target := by
  intro lev
  induction lev with
  | zero =>
    intro v T0 hl hv X0 e0
    obtain ⟨T1, X1, e1, Ls, st⟩ := nxE S frm v s6 s7 s8 s9 X0 hx hZ hw hby hml hown e0
    exact ⟨T1, v, X1, e1, own_lv0 hv, Ls, st⟩
  | succ lev ih =>
    intro v T0 hl hv X0 e0
    have hl0 : lev < D := by omega
    obtain ⟨hk, hnz⟩ := own_down Sh hsz B hl0 hv
    have hb := Sh.big lev hl0
    obtain ⟨T1, X1, e1, t, ht, hbit, st⟩ := nxD n0 S LV kV D xs ks N f sI af frm v lev s6 s7 s8 s9 X0 hx hZ hw hby hml hown e0 hcl hsl R_s hl0 Sh.d4 (by omega) hb hk hnz
    obtain ⟨T2, x, X2, e2, hx2, Ls, st2⟩ := ih (64 * v + t) T1 hl0 ((B lev hl0 v hk t ht).mp hbit) X1 e1
    exact ⟨T2, x, X2, e2, hx2, Ls, fun target kt => st target (st2 target kt)⟩
set_option maxRecDepth 65536 in
set_option maxHeartbeats 40000000 in
theorem nxL {p : Program} {l : Launch} {e : Env} {s : State} {m : MethodId} {args : Array Value} {below : List Frame} {meth : Method} {c : Code} {cells slots : Nat} {Z : State} {a0 : Array Value} {h0 : Heap} {locs : List Loc} (n0 : Nat) (S LV : Addr) (kV : ClassId) (D : Nat) (xs : Nat → Addr) (ks : Nat → ClassId) (N : Nat → Nat) (f : Nat → Nat → Int64) (sI : Int32) (af : Int64) (frm : Nat) (M : Nat → Prop) (sz : Nat) (hx : p.tables.exec = Jvm.exec) (hZ : Z.Warmed39 s.vm) (hw : ∀ d ∈ tables_1, d.before a0 Z = true) (hby : c.code = prog_103_method_6_code) (hml : c.maxLocals = 10) (hown : s.vm.findClass "com/example/halfword/halfword/verify/RoundRobinSet" = some m.cls) (hcl : cells ≤ 0) (hsl : slots ≤ 0) (R_s : RS Z h0 n0 S LV kV D xs ks N f sI af) (Sh : Shp sz D N) (hsz : ∀ e, M e → e < sz) (B : Bt D N f (Lv M)) (hf : frm ≤ 1048576) :
    ∀ (n lev v : Nat) (s6 s7 s8 s9 : Slot) (T0 : State), One s6 → One s7 → Two s8 s9 → lev + n + 1 = D → v ≤ 1048577 → Up M frm lev v → Stand p l e ({ frames := 2, cells := 0, slots := 0, locals := 30 } : Room) s m args below meth c T0 locs cells slots → T0.heap = h0 →
      ∃ (T' : State) (r : Int64) (pc : Nat) (Ls : Array Slot), Stand p l e ({ frames := 2, cells := 0, slots := 0, locals := 30 } : Room) s m args below meth c T' locs cells slots ∧ T'.heap = h0 ∧ decode c.code pc = .ok (.lreturn, 1) ∧ ((r = (-1 : Int64) ∧ ∀ e, M e → e < frm) ∨ ∃ x, r = Int64.ofNat x ∧ M x) ∧ ∀ target, Steps p.tables e below (T'.setTop (mkF m pc Ls [.long r])) target → Steps p.tables e below (T0.setTop (mkF m 5 #[.val (.ref S), .val (.long (Int64.ofNat frm)), .second, .val (.int (Int32.ofNat lev)), .val (.long (Int64.ofNat v)), .second, s6, s7, s8, s9] [])) target := by
  intro n
  induction n with
  | zero =>
    intro lev v s6 s7 s8 s9 T0 h6 h7 h8 hn hv hU X0 e0
    have hl : lev < D := by omega
    obtain ⟨T1, X1, e1, hc⟩ := nxT n0 S LV kV D xs ks N f sI af frm v lev s6 s7 s8 s9 X0 hx hZ hw hby hml hown e0 h6 h7 h8 hcl hsl R_s hl Sh.d4 (by omega) (Sh.big lev hl)
    rcases hc with ⟨t, hk, ht, hb, a6, a7, a8, a9, st⟩ | ⟨hz, he, Ls, st⟩ | ⟨hz, he, -⟩
    · obtain ⟨T2, x, X2, e2, hx2, Ls, st2⟩ := nxDL n0 S LV kV D xs ks N f sI af frm a6 a7 a8 a9 M sz hx hZ hw hby hml hown hcl hsl R_s Sh hsz B lev _ T1 hl ((B lev hl _ hk t ht).mp hb) X1 e1
      exact ⟨T2, _, 133, Ls, X2, e2, by rw [hby]; exact d10_133, Or.inr ⟨x, rfl, hx2⟩, fun target kt => st target (st2 target kt)⟩
    · refine ⟨T1, _, 88, Ls, X1, e1, by rw [hby]; exact d10_88, Or.inl ⟨rfl, ?_⟩, st⟩
      exact own_up_end Sh hsz (he ▸ own_up_step Sh hsz B hl hU hz)
    · exact absurd (by omega) he
  | succ n ih =>
    intro lev v s6 s7 s8 s9 T0 h6 h7 h8 hn hv hU X0 e0
    have hl : lev < D := by omega
    obtain ⟨T1, X1, e1, hc⟩ := nxT n0 S LV kV D xs ks N f sI af frm v lev s6 s7 s8 s9 X0 hx hZ hw hby hml hown e0 h6 h7 h8 hcl hsl R_s hl Sh.d4 (by omega) (Sh.big lev hl)
    rcases hc with ⟨t, hk, ht, hb, a6, a7, a8, a9, st⟩ | ⟨hz, he, -⟩ | ⟨hz, he, a6, a7, a8, a9, o6, o7, o8, st⟩
    · obtain ⟨T2, x, X2, e2, hx2, Ls, st2⟩ := nxDL n0 S LV kV D xs ks N f sI af frm a6 a7 a8 a9 M sz hx hZ hw hby hml hown hcl hsl R_s Sh hsz B lev _ T1 hl ((B lev hl _ hk t ht).mp hb) X1 e1
      exact ⟨T2, _, 133, Ls, X2, e2, by rw [hby]; exact d10_133, Or.inr ⟨x, rfl, hx2⟩, fun target kt => st target (st2 target kt)⟩
    · exact absurd he (by omega)
    · obtain ⟨T2, r, pc, Ls, X2, e2, hd, hq, st2⟩ := ih (lev + 1) _ a6 a7 a8 a9 T1 o6 o7 o8 (by omega) (by omega) (own_up_step Sh hsz B hl hU hz) X1 e1
      exact ⟨T2, r, pc, Ls, X2, e2, hd, hq, fun target kt => st target (st2 target kt)⟩
theorem d10_0 : decode prog_103_method_6_code 0 = .ok (.iconst 0, 1) := by decide +kernel
theorem d10_1 : decode prog_103_method_6_code 1 = .ok (.istore_n 3, 1) := by decide +kernel
theorem d10_2 : decode prog_103_method_6_code 2 = .ok (.lload_n 1, 1) := by decide +kernel
theorem d10_3 : decode prog_103_method_6_code 3 = .ok (.lstore 4, 2) := by decide +kernel
theorem pn_10 : plainName "com/example/halfword/halfword/verify/RoundRobinSet" = true := by first | (simp [plainName, overriddenIn]; done) | decide +kernel
theorem ef_rNx (m : MethodId) (x0 : Addr) (x1 : Int64) : entryFrame m #[(.ref x0), (.long x1)] 10 = mkF m 0 #[.val (.ref x0), .val (.long x1), .second, .unset, .unset, .unset, .unset, .unset, .unset, .unset] [] := by first | (simp [entryFrame, mkF, argsToLocals, Value.category]; done) | rfl
set_option maxRecDepth 65536 in
set_option maxHeartbeats 40000000 in
theorem rNx (l : Launch) (Z : State) (a0 : Array Value) (hw : ∀ d ∈ tables_1, d.before a0 Z = true) (ws : List Jvm.Cond) (o0 : Addr) (sz af frm : Nat) (M : Nat → Prop) (h0 : Heap) (n0 : Nat) (Z0 : n0 ≤ h0.size) (R_m : RSM Z n0 o0 sz af M h0) (hf : frm ≤ 1048576) :
    MetFree l (⟨"com/example/halfword/halfword/verify/RoundRobinSet", "next", "(J)J"⟩ : MethodName) (head1 (Jvm.Cond.code (⟨"com/example/halfword/halfword/verify/RoundRobinSet", "next", "(J)J"⟩ : MethodName) prog_103_method_6_code 10 (some .long) :: ws) ({ frames := 2, cells := 0, slots := 0, locals := 30 } : Room)) (fun a U => a = #[(.ref o0), (.long (Int64.ofNat frm))] ∧ Z.Warmed39 U.vm ∧ U.heap = h0) (fun _ _ _ _ _ => True) (fun _ U o U' => ∃ v L, o = .returned v ∧ QNx n0 M frm h0 v U'.heap L ∧ FrameEnd U o U' L ({ frames := 2, cells := 0, slots := 0, locals := 30 } : Room).cells ({ frames := 2, cells := 0, slots := 0, locals := 30 } : Room).slots) := by
  refine MetFree.of_bodySF (plainFor_of_name pn_10) hisR ?_
  intro p e s m args below meth c s₁ Bd hml0 hP hK
  obtain ⟨rfl, hZ, hh⟩ := hP
  have hx := Bd.exec
  have hby := Bd.bytes
  have hml : c.maxLocals = 10 := hml0
  have hown : s.vm.findClass "com/example/halfword/halfword/verify/RoundRobinSet" = some m.cls := findClass_of_methodNamed Bd.named
  have hnm := (name_of_methodNamed Bd.named Bd.method).1
  have X0 : Stand p l e ({ frames := 2, cells := 0, slots := 0, locals := 30 } : Room) s m #[(.ref o0), (.long (Int64.ofNat frm))] below meth c s₁ [] 0 0 := Stand.of_body Bd
  have e0 : s₁.heap = h0 := by rw [← hh, Bd.state]; rfl
  have N0 := Fr.nil n0
  have pre0 : ∀ t, Steps p.tables e below (s₁.setTop (mkF m 0 #[.val (.ref o0), .val (.long (Int64.ofNat frm)), .second, .unset, .unset, .unset, .unset, .unset, .unset, .unset] [])) t → Steps p.tables e below (s₁.setTop (entryFrame m #[(.ref o0), (.long (Int64.ofNat frm))] 10)) t := fun t k => castTop (ef_rNx m o0 (Int64.ofNat frm)) k
  obtain ⟨LV, kV, D, xs, ks, N, f, R_s, Sh, Bb, hM, haf⟩ := id R_m
  have hD1 := Sh.d1
  have pre1 : ∀ t, Steps p.tables e below (s₁.setTop (mkF m 5 #[.val (.ref o0), .val (.long (Int64.ofNat frm)), .second, .val (.int (0 : Int32)), .val (.long (Int64.ofNat frm)), .second, .unset, .unset, .unset, .unset] [])) t → Steps p.tables e below (s₁.setTop (entryFrame m #[(.ref o0), (.long (Int64.ofNat frm))] 10)) t := by
    intro t kt
    refine pre0 t ?_
    show Steps p.tables e below (s₁.setTop (mkF m 0 #[.val (.ref o0), .val (.long (Int64.ofNat frm)), .second, .unset, .unset, .unset, .unset, .unset, .unset, .unset] [])) _
    refine XS.iconst X0.here hx rfl (hb hby d10_0) ?_
    show Steps p.tables e below (s₁.setTop (mkF m 1 #[.val (.ref o0), .val (.long (Int64.ofNat frm)), .second, .unset, .unset, .unset, .unset, .unset, .unset, .unset] [(.int (0 : Int32))])) _
    refine XS.istoreN X0.here hx rfl (hb hby d10_1) rfl (l' := #[.val (.ref o0), .val (.long (Int64.ofNat frm)), .second, .val (.int (0 : Int32)), .unset, .unset, .unset, .unset, .unset, .unset]) rfl ?_
    show Steps p.tables e below (s₁.setTop (mkF m 2 #[.val (.ref o0), .val (.long (Int64.ofNat frm)), .second, .val (.int (0 : Int32)), .unset, .unset, .unset, .unset, .unset, .unset] [])) _
    refine XS.lloadN X0.here hx rfl (hb hby d10_2) rfl ?_
    show Steps p.tables e below (s₁.setTop (mkF m 3 #[.val (.ref o0), .val (.long (Int64.ofNat frm)), .second, .val (.int (0 : Int32)), .unset, .unset, .unset, .unset, .unset, .unset] [(.long (Int64.ofNat frm))])) _
    refine XS.lstore X0.here hx rfl (hb hby d10_3) rfl (l' := #[.val (.ref o0), .val (.long (Int64.ofNat frm)), .second, .val (.int (0 : Int32)), .val (.long (Int64.ofNat frm)), .second, .unset, .unset, .unset, .unset]) rfl ?_
    exact kt
  obtain ⟨T2, r, pc, Ls, X2, e2, hdec, hq, st2⟩ := nxL n0 o0 LV kV D xs ks N f (Int32.ofNat sz) (Int64.ofNat af) frm M sz hx hZ hw hby hml hown (Nat.le_refl _) (Nat.le_refl _) R_s Sh hM Bb hf (D - 1) 0 frm .unset .unset .unset .unset _ One.u One.u (Or.inl ⟨rfl, rfl⟩) (by omega) (by omega) (own_up0 M frm) X0 e0
  obtain ⟨fs, hr, hrun, hended, hW, hsame⟩ := X2.leave (v := some (.long r)) (fun h => by rw [Bd.returns] at h; cases h)
  refine ⟨_, _, pre1 _ (st2 _ ?_), hrun, hended, _, _, rfl, ?_, ⟨_, rfl⟩, hW, hsame.mono (by decide) (by decide)⟩
  · exact own_retL X2 hx Bd.returns hdec hr
  · exact ⟨r, rfl, N0, e2, hq⟩
theorem own_q1 {r : Int64} {M : Nat → Prop} {frm : Nat} (hq : (r = (-1 : Int64) ∧ ∀ e, M e → e < frm) ∨ ∃ x, r = Int64.ofNat x ∧ M x) (hb : ∀ e, M e → e < 2147483648) (h : lcmpW r (0 : Int64) < (0 : Int32)) : ∀ e, M e → e < frm := by
  rcases hq with q | ⟨x, rfl, hM⟩
  · exact q.2
  · exact absurd h (own_lcneg (hb x hM))
theorem own_q2 {r : Int64} {M : Nat → Prop} {frm : Nat} (hq : (r = (-1 : Int64) ∧ ∀ e, M e → e < frm) ∨ ∃ x, r = Int64.ofNat x ∧ M x) (h : ¬ lcmpW r (0 : Int64) < (0 : Int32)) : ∃ x, r = Int64.ofNat x ∧ M x := by
  rcases hq with ⟨rfl, -⟩ | q
  · exact absurd own_lcm1 h
  · exact q
theorem own_q3 {r : Int64} {M : Nat → Prop} (hq : (r = (-1 : Int64) ∧ ∀ e, M e → e < 0) ∨ ∃ x, r = Int64.ofNat x ∧ M x) (h : ∃ e, M e) : ∃ x, r = Int64.ofNat x ∧ M x := by
  rcases hq with ⟨-, q⟩ | q
  · obtain ⟨e, he⟩ := h; exact absurd (q e he) (Nat.not_lt_zero _)
  · exact q
theorem d9_0 : decode prog_103_method_5_code 0 = .ok (.aload_n 0, 1) := by decide +kernel
theorem d9_1 : decode prog_103_method_5_code 1 = .ok (.aload_n 0, 1) := by decide +kernel
theorem d9_2 : decode prog_103_method_5_code 2 = .ok (.getfield 48, 3) := by decide +kernel
theorem d9_5 : decode prog_103_method_5_code 5 = .ok (.invokevirtual 52, 3) := by decide +kernel
theorem pd__J_J : parseMethodDescriptor "(J)J" = some ⟨[.long], some .long⟩ := by decide +kernel
theorem d9_8 : decode prog_103_method_5_code 8 = .ok (.lstore_n 1, 1) := by decide +kernel
theorem d9_9 : decode prog_103_method_5_code 9 = .ok (.lload_n 1, 1) := by decide +kernel
theorem d9_10 : decode prog_103_method_5_code 10 = .ok (.lconst 0, 1) := by decide +kernel
theorem d9_11 : decode prog_103_method_5_code 11 = .ok (.lcmp, 1) := by decide +kernel
theorem d9_12 : decode prog_103_method_5_code 12 = .ok (.ifCond .ge 9, 3) := by decide +kernel
theorem d9_15 : decode prog_103_method_5_code 15 = .ok (.aload_n 0, 1) := by decide +kernel
theorem d9_16 : decode prog_103_method_5_code 16 = .ok (.lconst 0, 1) := by decide +kernel
theorem d9_17 : decode prog_103_method_5_code 17 = .ok (.invokevirtual 52, 3) := by decide +kernel
theorem d9_20 : decode prog_103_method_5_code 20 = .ok (.lstore_n 1, 1) := by decide +kernel
theorem d9_21 : decode prog_103_method_5_code 21 = .ok (.lload_n 1, 1) := by decide +kernel
theorem d9_22 : decode prog_103_method_5_code 22 = .ok (.lconst 0, 1) := by decide +kernel
theorem d9_23 : decode prog_103_method_5_code 23 = .ok (.lcmp, 1) := by decide +kernel
theorem d9_24 : decode prog_103_method_5_code 24 = .ok (.ifCond .ge 13, 3) := by decide +kernel
theorem d9_37 : decode prog_103_method_5_code 37 = .ok (.aload_n 0, 1) := by decide +kernel
theorem d9_38 : decode prog_103_method_5_code 38 = .ok (.lload_n 1, 1) := by decide +kernel
theorem d9_39 : decode prog_103_method_5_code 39 = .ok (.invokevirtual 60, 3) := by decide +kernel
theorem pd__J_V : parseMethodDescriptor "(J)V" = some ⟨[.long], none⟩ := by decide +kernel
theorem d9_42 : decode prog_103_method_5_code 42 = .ok (.aload_n 0, 1) := by decide +kernel
theorem d9_43 : decode prog_103_method_5_code 43 = .ok (.lload_n 1, 1) := by decide +kernel
theorem d9_44 : decode prog_103_method_5_code 44 = .ok (.lconst 1, 1) := by decide +kernel
theorem d9_45 : decode prog_103_method_5_code 45 = .ok (.ladd, 1) := by decide +kernel
theorem d9_46 : decode prog_103_method_5_code 46 = .ok (.putfield 48, 3) := by decide +kernel
theorem d9_49 : decode prog_103_method_5_code 49 = .ok (.lload_n 1, 1) := by decide +kernel
theorem d9_50 : decode prog_103_method_5_code 50 = .ok (.l2i, 1) := by decide +kernel
theorem d9_51 : decode prog_103_method_5_code 51 = .ok (.ireturn, 1) := by decide +kernel
theorem pn_9 : plainName "com/example/halfword/halfword/verify/RoundRobinSet" = true := by first | (simp [plainName, overriddenIn]; done) | decide +kernel
theorem ef_rTk (m : MethodId) (x0 : Addr) : entryFrame m #[(.ref x0)] 3 = mkF m 0 #[.val (.ref x0), .unset, .unset] [] := by first | (simp [entryFrame, mkF, argsToLocals, Value.category]; done) | rfl
set_option maxRecDepth 65536 in
set_option maxHeartbeats 40000000 in
theorem rTk (l : Launch) (Z : State) (a0 : Array Value) (hw : ∀ d ∈ tables_1, d.before a0 Z = true) (ws : List Jvm.Cond) (o0 : Addr) (sz af : Nat) (M : Nat → Prop) (h0 : Heap) (n0 : Nat) (Z0 : n0 ≤ h0.size) (R_m : RSM Z n0 o0 sz af M h0) (hne : ∃ e, M e) :
    MetFree l (⟨"com/example/halfword/halfword/verify/RoundRobinSet", "take", "()I"⟩ : MethodName) (head1 (Jvm.Cond.code (⟨"com/example/halfword/halfword/verify/RoundRobinSet", "take", "()I"⟩ : MethodName) prog_103_method_5_code 3 (some .int) :: ws) ({ frames := 3, cells := 0, slots := 0, locals := 56 } : Room)) (fun a U => a = #[(.ref o0)] ∧ Z.Warmed39 U.vm ∧ U.heap = h0) (fun _ _ _ _ _ => True) (fun _ U o U' => ∃ v L, o = .returned v ∧ QTk Z n0 o0 sz M v U'.heap L ∧ FrameEnd U o U' L ({ frames := 3, cells := 0, slots := 0, locals := 56 } : Room).cells ({ frames := 3, cells := 0, slots := 0, locals := 56 } : Room).slots) := by
  refine MetFree.of_bodySF (plainFor_of_name pn_9) hisR ?_
  intro p e s m args below meth c s₁ Bd hml0 hP hK
  obtain ⟨rfl, hZ, hh⟩ := hP
  have hx := Bd.exec
  have hby := Bd.bytes
  have hml : c.maxLocals = 3 := hml0
  have hown : s.vm.findClass "com/example/halfword/halfword/verify/RoundRobinSet" = some m.cls := findClass_of_methodNamed Bd.named
  have hnm := (name_of_methodNamed Bd.named Bd.method).1
  have X0 : Stand p l e ({ frames := 3, cells := 0, slots := 0, locals := 56 } : Room) s m #[(.ref o0)] below meth c s₁ [] 0 0 := Stand.of_body Bd
  have e0 : s₁.heap = h0 := by rw [← hh, Bd.state]; rfl
  have N0 := Fr.nil n0
  have pre0 : ∀ t, Steps p.tables e below (s₁.setTop (mkF m 0 #[.val (.ref o0), .unset, .unset] [])) t → Steps p.tables e below (s₁.setTop (entryFrame m #[(.ref o0)] 3)) t := fun t k => castTop (ef_rTk m o0) k
  obtain ⟨LV, kV, D, xs, ks, N, f, R_s, Sh, Bb, hM, haf⟩ := id R_m
  have s20 := Sh.s20
  have E_o := R_s.ex
  have F_a := R_s.fa
  have hb31 : ∀ e, M e → e < 2147483648 := fun e he => by have := hM e he; omega
  obtain ⟨T1, X1, e1, st1⟩ := getF X0 hx hZ hown (host := "") (Or.inl (hw _ (List.mem_of_getElem? (i := 50) rfl))) Via.refl e0 F_a (g := (mkF m 2 #[.val (.ref o0), .unset, .unset] [(.ref o0), (.ref o0)])) rfl rfl (hb hby d9_2)
  obtain ⟨cq2, q2, q2'⟩ := (E_o).cell
  obtain ⟨_, _, ⟨T2, L2, k2, n2⟩, -, X2, ⟨Lc2, hQ2, l2, y2, z2⟩, st2⟩ := X1.privateBack hx (y := (⟨"com/example/halfword/halfword/verify/RoundRobinSet", "next", "(J)J"⟩ : MethodName)) hown (mvT hZ (hw _ (List.mem_of_getElem? (i := 52) rfl))) (mvT hZ (hw _ (List.mem_of_getElem? (i := 53) rfl))) (mvT hZ (Jvm.Kit.selects_private (y := (⟨"com/example/halfword/halfword/verify/RoundRobinSet", "next", "(J)J"⟩ : MethodName)) (by decide) (hw _ (List.mem_of_getElem? (i := 2) rfl)) (hw _ (List.mem_of_getElem? (i := 54) rfl)) (hw _ (List.mem_of_getElem? (i := 53) rfl)))) (Cond.privateMethod_at (mvP hZ (hw _ (List.mem_of_getElem? (i := 54) rfl)) (args := #[]))) (mvT hZ (hw _ (List.mem_of_getElem? (i := 55) rfl))) (by decide) (backOf (W := 0) (rNx l Z a0 hw [] o0 sz af af M h0 n0 Z0 R_m (by omega)) hZ (hw _ (List.mem_of_getElem? (i := 55) rfl)) (hw _ (List.mem_of_getElem? (i := 3) rfl)) (by decide) (by decide)) (g := (mkF m 5 #[.val (.ref o0), .unset, .unset] [(.long (Int64.ofNat af)), (.ref o0)])) rfl (by rw [hml]; rfl) (Steps.refl _) (a := o0) (by rw [e1]; exact q2) q2' (argsL := [(.long (Int64.ofNat af))]) (rest := []) (lenOf pd__J_J rfl) rfl (by show 2 * 0 + _ ≤ _; exact Nat.le_of_eq rfl) (hb hby d9_5) (fun _ _ => ⟨rfl, e1, (by decide : 0 + 0 ≤ _), (by decide : 0 + 0 ≤ _)⟩)
  dsimp only [Pt.U, Pt.locs, Pt.cells, Pt.slots] at X2 l2 y2 z2 st2 hQ2
  rw [l2, y2, z2] at X2
  obtain ⟨r2, rfl, N2q, e2, hqr2⟩ := hQ2
  have N2 := Fr.app N0 N2q
  have pre3 : ∀ t, Steps p.tables e below (T2.setTop (mkF m 12 #[.val (.ref o0), .val (.long r2), .second] [(.int (lcmpW r2 (0 : Int64)))])) t → Steps p.tables e below (s₁.setTop (entryFrame m #[(.ref o0)] 3)) t := by
    intro t kt
    refine pre0 t ?_
    show Steps p.tables e below (s₁.setTop (mkF m 0 #[.val (.ref o0), .unset, .unset] [])) _
    refine XS.aloadN X0.here hx rfl (hb hby d9_0) rfl rfl ?_
    show Steps p.tables e below (s₁.setTop (mkF m 1 #[.val (.ref o0), .unset, .unset] [(.ref o0)])) _
    refine XS.aloadN X0.here hx rfl (hb hby d9_1) rfl rfl ?_
    show Steps p.tables e below (s₁.setTop (mkF m 2 #[.val (.ref o0), .unset, .unset] [(.ref o0), (.ref o0)])) _
    refine st1 _ ?_
    show Steps p.tables e below (T1.setTop (mkF m 5 #[.val (.ref o0), .unset, .unset] [(.long (Int64.ofNat af)), (.ref o0)])) _
    refine st2.trans ?_
    show Steps p.tables e below (T2.setTop (mkF m 8 #[.val (.ref o0), .unset, .unset] [(.long r2)])) _
    refine XS.lstoreN X2.here hx rfl (hb hby d9_8) rfl (l' := #[.val (.ref o0), .val (.long r2), .second]) rfl ?_
    show Steps p.tables e below (T2.setTop (mkF m 9 #[.val (.ref o0), .val (.long r2), .second] [])) _
    refine XS.lloadN X2.here hx rfl (hb hby d9_9) rfl ?_
    show Steps p.tables e below (T2.setTop (mkF m 10 #[.val (.ref o0), .val (.long r2), .second] [(.long r2)])) _
    refine XS.lconst X2.here hx rfl (hb hby d9_10) ?_
    show Steps p.tables e below (T2.setTop (mkF m 11 #[.val (.ref o0), .val (.long r2), .second] [(.long (0 : Int64)), (.long r2)])) _
    refine XS.lcmp X2.here hx rfl (hb hby d9_11) rfl ?_
    exact kt
  by_cases hc4 : (lcmpW r2 (0 : Int64)) < (0 : Int32)
  · skip
    obtain ⟨cq5, q5, q5'⟩ := (E_o).cell
    obtain ⟨_, _, ⟨T5, L5, k5, n5⟩, -, X5, ⟨Lc5, hQ5, l5, y5, z5⟩, st5⟩ := X2.privateBack hx (y := (⟨"com/example/halfword/halfword/verify/RoundRobinSet", "next", "(J)J"⟩ : MethodName)) hown (mvT hZ (hw _ (List.mem_of_getElem? (i := 52) rfl))) (mvT hZ (hw _ (List.mem_of_getElem? (i := 53) rfl))) (mvT hZ (Jvm.Kit.selects_private (y := (⟨"com/example/halfword/halfword/verify/RoundRobinSet", "next", "(J)J"⟩ : MethodName)) (by decide) (hw _ (List.mem_of_getElem? (i := 2) rfl)) (hw _ (List.mem_of_getElem? (i := 54) rfl)) (hw _ (List.mem_of_getElem? (i := 53) rfl)))) (Cond.privateMethod_at (mvP hZ (hw _ (List.mem_of_getElem? (i := 54) rfl)) (args := #[]))) (mvT hZ (hw _ (List.mem_of_getElem? (i := 55) rfl))) (by decide) (backOf (W := 0) (rNx l Z a0 hw [] o0 sz af 0 M h0 n0 Z0 R_m (by omega)) hZ (hw _ (List.mem_of_getElem? (i := 55) rfl)) (hw _ (List.mem_of_getElem? (i := 3) rfl)) (by decide) (by decide)) (g := (mkF m 17 #[.val (.ref o0), .val (.long r2), .second] [(.long (Int64.ofNat 0)), (.ref o0)])) rfl (by rw [hml]; rfl) (Steps.refl _) (a := o0) (by rw [e2]; exact q5) q5' (argsL := [(.long (Int64.ofNat 0))]) (rest := []) (lenOf pd__J_J rfl) rfl (by show 2 * 0 + _ ≤ _; exact Nat.le_of_eq rfl) (hb hby d9_17) (fun _ _ => ⟨rfl, e2, (by decide : 0 + 0 ≤ _), (by decide : 0 + 0 ≤ _)⟩)
    dsimp only [Pt.U, Pt.locs, Pt.cells, Pt.slots] at X5 l5 y5 z5 st5 hQ5
    rw [l5, y5, z5] at X5
    obtain ⟨r5, rfl, N5q, e5, hqr5⟩ := hQ5
    have N5 := Fr.app N2 N5q
    obtain ⟨x5, rx5, hx5⟩ := own_q3 hqr5 hne
    subst rx5
    obtain ⟨cq6, q6, q6'⟩ := (E_o).cell
    obtain ⟨_, _, ⟨T6, L6, k6, n6⟩, -, X6, ⟨Lc6, hQ6, l6, y6, z6⟩, st6⟩ := X5.privateBack hx (y := (⟨"com/example/halfword/halfword/verify/RoundRobinSet", "remove", "(J)V"⟩ : MethodName)) hown (mvT hZ (hw _ (List.mem_of_getElem? (i := 66) rfl))) (mvT hZ (hw _ (List.mem_of_getElem? (i := 67) rfl))) (mvT hZ (Jvm.Kit.selects_private (y := (⟨"com/example/halfword/halfword/verify/RoundRobinSet", "remove", "(J)V"⟩ : MethodName)) (by decide) (hw _ (List.mem_of_getElem? (i := 2) rfl)) (hw _ (List.mem_of_getElem? (i := 68) rfl)) (hw _ (List.mem_of_getElem? (i := 67) rfl)))) (Cond.privateMethod_at (mvP hZ (hw _ (List.mem_of_getElem? (i := 68) rfl)) (args := #[]))) (mvT hZ (hw _ (List.mem_of_getElem? (i := 69) rfl))) (by decide) (backOf (W := 0) (rRem l Z a0 hw [] o0 sz af x5 M h0 n0 Z0 R_m (hM x5 hx5) hx5) hZ (hw _ (List.mem_of_getElem? (i := 69) rfl)) (hw _ (List.mem_of_getElem? (i := 3) rfl)) (by decide) (by decide)) (g := (mkF m 39 #[.val (.ref o0), .val (.long (Int64.ofNat x5)), .second] [(.long (Int64.ofNat x5)), (.ref o0)])) rfl (by rw [hml]; rfl) (Steps.refl _) (a := o0) (by rw [e5]; exact q6) q6' (argsL := [(.long (Int64.ofNat x5))]) (rest := []) (lenOf pd__J_V rfl) rfl (by show 2 * 0 + _ ≤ _; exact Nat.le_of_eq rfl) (hb hby d9_39) (fun _ _ => ⟨rfl, e5, (by decide : 0 + 0 ≤ _), (by decide : 0 + 0 ≤ _)⟩)
    dsimp only [Pt.U, Pt.locs, Pt.cells, Pt.slots] at X6 l6 y6 z6 st6 hQ6
    rw [l6, y6, z6] at X6
    obtain ⟨rfl, N6q, Rr6⟩ := hQ6
    have N6 := Fr.app N5 N6q
    obtain ⟨LV6, kV6, D6, xs6, ks6, N6f, f6, R26, Sh6, B6, hM6, haf6⟩ := id Rr6
    have E_o6 := R26.ex
    have F_l6 := R26.fl
    have F_s6 := R26.fs
    have F_a6 := R26.fa
    obtain ⟨T7, h7, X7, e7, W7, st7⟩ := putF X6 hx hZ hown (host := "") (Or.inl (hw _ (List.mem_of_getElem? (i := 50) rfl))) Via.refl rfl F_a6 E_o6 (Or.inl (hw _ (List.mem_of_getElem? (i := 51) rfl))) (hw _ (List.mem_of_getElem? (i := 2) rfl)) (ty := .long) (by decide) rfl rfl (g := (mkF m 46 #[.val (.ref o0), .val (.long (Int64.ofNat x5)), .second] [(.long (Int64.ofNat (x5 + 1))), (.ref o0)])) rfl rfl (hb hby d9_46)
    have Fw7 := F_a6.same W7
    have Zs7 : n0 ≤ h7.size := Nat.le_trans (Rr6.le) (Nat.le_of_eq W7.size.symm)
    have N7 := Fr.snoc X7 N6 R26.gS
    have F_l6_8 := (F_l6.other W7 (Or.inr (slot_ne (Or.inr (hw _ (List.mem_of_getElem? (i := 16) rfl))) (Or.inl (hw _ (List.mem_of_getElem? (i := 51) rfl))) (by decide) (t := (.array (.array .long))) (t' := .long) (by decide) (by decide))))
    have F_s6_9 := (F_s6.other W7 (Or.inr (slot_ne (Or.inr (hw _ (List.mem_of_getElem? (i := 11) rfl))) (Or.inl (hw _ (List.mem_of_getElem? (i := 51) rfl))) (by decide) (t := .int) (t' := .long) (by decide) (by decide))))
    obtain ⟨fs, hr, hrun, hended, hW, hsame⟩ := X7.leave (v := some (.int ((Int64.ofNat x5).toInt32))) (fun h => by rw [Bd.returns] at h; cases h)
    refine ⟨_, _, pre3 _ ?_, hrun, hended, _, _, rfl, ?_, ⟨_, rfl⟩, hW, hsame.mono (by decide) (by decide)⟩
    · skip
      show Steps p.tables e below (T2.setTop (mkF m 12 #[.val (.ref o0), .val (.long r2), .second] [(.int (lcmpW r2 (0 : Int64)))])) _
      refine XS.ifNo X2.here hx rfl (hb hby d9_12) rfl ((if0 _ _).trans (tlt hc4).2.1) ?_
      show Steps p.tables e below (T2.setTop (mkF m 15 #[.val (.ref o0), .val (.long r2), .second] [])) _
      refine XS.aloadN X2.here hx rfl (hb hby d9_15) rfl rfl ?_
      show Steps p.tables e below (T2.setTop (mkF m 16 #[.val (.ref o0), .val (.long r2), .second] [(.ref o0)])) _
      refine XS.lconst X2.here hx rfl (hb hby d9_16) ?_
      show Steps p.tables e below (T2.setTop (mkF m 17 #[.val (.ref o0), .val (.long r2), .second] [(.long (0 : Int64)), (.ref o0)])) _
      rw [show (0 : Int64) = Int64.ofNat 0 from rfl]
      show Steps p.tables e below (T2.setTop (mkF m 17 #[.val (.ref o0), .val (.long r2), .second] [(.long (Int64.ofNat 0)), (.ref o0)])) _
      refine st5.trans ?_
      show Steps p.tables e below (T5.setTop (mkF m 20 #[.val (.ref o0), .val (.long r2), .second] [(.long (Int64.ofNat x5))])) _
      refine XS.lstoreN X5.here hx rfl (hb hby d9_20) rfl (l' := #[.val (.ref o0), .val (.long (Int64.ofNat x5)), .second]) rfl ?_
      show Steps p.tables e below (T5.setTop (mkF m 21 #[.val (.ref o0), .val (.long (Int64.ofNat x5)), .second] [])) _
      refine XS.lloadN X5.here hx rfl (hb hby d9_21) rfl ?_
      show Steps p.tables e below (T5.setTop (mkF m 22 #[.val (.ref o0), .val (.long (Int64.ofNat x5)), .second] [(.long (Int64.ofNat x5))])) _
      refine XS.lconst X5.here hx rfl (hb hby d9_22) ?_
      show Steps p.tables e below (T5.setTop (mkF m 23 #[.val (.ref o0), .val (.long (Int64.ofNat x5)), .second] [(.long (0 : Int64)), (.long (Int64.ofNat x5))])) _
      refine XS.lcmp X5.here hx rfl (hb hby d9_23) rfl ?_
      show Steps p.tables e below (T5.setTop (mkF m 24 #[.val (.ref o0), .val (.long (Int64.ofNat x5)), .second] [(.int (lcmpW (Int64.ofNat x5) (0 : Int64)))])) _
      refine XS.ifYes X5.here hx rfl (pc0 := 24) (pc' := 37) rfl (hb hby d9_24) rfl ((if0 _ _).trans (flt (own_lcneg (hb31 x5 hx5))).2.1) (by decide) (by decide) ?_
      show Steps p.tables e below (T5.setTop (mkF m 37 #[.val (.ref o0), .val (.long (Int64.ofNat x5)), .second] [])) _
      refine XS.aloadN X5.here hx rfl (hb hby d9_37) rfl rfl ?_
      show Steps p.tables e below (T5.setTop (mkF m 38 #[.val (.ref o0), .val (.long (Int64.ofNat x5)), .second] [(.ref o0)])) _
      refine XS.lloadN X5.here hx rfl (hb hby d9_38) rfl ?_
      show Steps p.tables e below (T5.setTop (mkF m 39 #[.val (.ref o0), .val (.long (Int64.ofNat x5)), .second] [(.long (Int64.ofNat x5)), (.ref o0)])) _
      refine st6.trans ?_
      show Steps p.tables e below (T6.setTop (mkF m 42 #[.val (.ref o0), .val (.long (Int64.ofNat x5)), .second] [])) _
      refine XS.aloadN X6.here hx rfl (hb hby d9_42) rfl rfl ?_
      show Steps p.tables e below (T6.setTop (mkF m 43 #[.val (.ref o0), .val (.long (Int64.ofNat x5)), .second] [(.ref o0)])) _
      refine XS.lloadN X6.here hx rfl (hb hby d9_43) rfl ?_
      show Steps p.tables e below (T6.setTop (mkF m 44 #[.val (.ref o0), .val (.long (Int64.ofNat x5)), .second] [(.long (Int64.ofNat x5)), (.ref o0)])) _
      refine XS.lconst X6.here hx rfl (hb hby d9_44) ?_
      show Steps p.tables e below (T6.setTop (mkF m 45 #[.val (.ref o0), .val (.long (Int64.ofNat x5)), .second] [(.long (1 : Int64)), (.long (Int64.ofNat x5)), (.ref o0)])) _
      refine XS.ladd X6.here hx rfl (hb hby d9_45) rfl ?_
      show Steps p.tables e below (T6.setTop (mkF m 46 #[.val (.ref o0), .val (.long (Int64.ofNat x5)), .second] [(.long ((Int64.ofNat x5) + (1 : Int64))), (.ref o0)])) _
      rw [own_addL1]
      show Steps p.tables e below (T6.setTop (mkF m 46 #[.val (.ref o0), .val (.long (Int64.ofNat x5)), .second] [(.long (Int64.ofNat (x5 + 1))), (.ref o0)])) _
      refine st7 _ ?_
      show Steps p.tables e below (T7.setTop (mkF m 49 #[.val (.ref o0), .val (.long (Int64.ofNat x5)), .second] [])) _
      refine XS.lloadN X7.here hx rfl (hb hby d9_49) rfl ?_
      show Steps p.tables e below (T7.setTop (mkF m 50 #[.val (.ref o0), .val (.long (Int64.ofNat x5)), .second] [(.long (Int64.ofNat x5))])) _
      refine XS.l2i X7.here hx rfl (hb hby d9_50) rfl ?_
      show Steps p.tables e below (T7.setTop (mkF m 51 #[.val (.ref o0), .val (.long (Int64.ofNat x5)), .second] [(.int ((Int64.ofNat x5).toInt32))])) _
      exact retI X7 hx Bd.returns (hb hby d9_51) hr
    · show QTk Z n0 o0 sz M _ T7.heap _
      rw [e7]
      exact ⟨x5, _, rfl, N7, hx5, LV6, kV6, D6, xs6, ks6, N6f, f6, R26.aft W7 F_l6_8 F_s6_9 Fw7, Sh6, B6, hM6, (by have := hM x5 hx5; omega)⟩
  · skip
    obtain ⟨xhc4, rxhc4, hxhc4⟩ := own_q2 hqr2 hc4
    subst rxhc4
    obtain ⟨cq10, q10, q10'⟩ := (E_o).cell
    obtain ⟨_, _, ⟨T10, L10, k10, n10⟩, -, X10, ⟨Lc10, hQ10, l10, y10, z10⟩, st10⟩ := X2.privateBack hx (y := (⟨"com/example/halfword/halfword/verify/RoundRobinSet", "remove", "(J)V"⟩ : MethodName)) hown (mvT hZ (hw _ (List.mem_of_getElem? (i := 66) rfl))) (mvT hZ (hw _ (List.mem_of_getElem? (i := 67) rfl))) (mvT hZ (Jvm.Kit.selects_private (y := (⟨"com/example/halfword/halfword/verify/RoundRobinSet", "remove", "(J)V"⟩ : MethodName)) (by decide) (hw _ (List.mem_of_getElem? (i := 2) rfl)) (hw _ (List.mem_of_getElem? (i := 68) rfl)) (hw _ (List.mem_of_getElem? (i := 67) rfl)))) (Cond.privateMethod_at (mvP hZ (hw _ (List.mem_of_getElem? (i := 68) rfl)) (args := #[]))) (mvT hZ (hw _ (List.mem_of_getElem? (i := 69) rfl))) (by decide) (backOf (W := 0) (rRem l Z a0 hw [] o0 sz af xhc4 M h0 n0 Z0 R_m (hM xhc4 hxhc4) hxhc4) hZ (hw _ (List.mem_of_getElem? (i := 69) rfl)) (hw _ (List.mem_of_getElem? (i := 3) rfl)) (by decide) (by decide)) (g := (mkF m 39 #[.val (.ref o0), .val (.long (Int64.ofNat xhc4)), .second] [(.long (Int64.ofNat xhc4)), (.ref o0)])) rfl (by rw [hml]; rfl) (Steps.refl _) (a := o0) (by rw [e2]; exact q10) q10' (argsL := [(.long (Int64.ofNat xhc4))]) (rest := []) (lenOf pd__J_V rfl) rfl (by show 2 * 0 + _ ≤ _; exact Nat.le_of_eq rfl) (hb hby d9_39) (fun _ _ => ⟨rfl, e2, (by decide : 0 + 0 ≤ _), (by decide : 0 + 0 ≤ _)⟩)
    dsimp only [Pt.U, Pt.locs, Pt.cells, Pt.slots] at X10 l10 y10 z10 st10 hQ10
    rw [l10, y10, z10] at X10
    obtain ⟨rfl, N10q, Rr10⟩ := hQ10
    have N10 := Fr.app N2 N10q
    obtain ⟨LV10, kV10, D10, xs10, ks10, N10f, f10, R210, Sh10, B10, hM10, haf10⟩ := id Rr10
    have E_o10 := R210.ex
    have F_l10 := R210.fl
    have F_s10 := R210.fs
    have F_a10 := R210.fa
    obtain ⟨T11, h11, X11, e11, W11, st11⟩ := putF X10 hx hZ hown (host := "") (Or.inl (hw _ (List.mem_of_getElem? (i := 50) rfl))) Via.refl rfl F_a10 E_o10 (Or.inl (hw _ (List.mem_of_getElem? (i := 51) rfl))) (hw _ (List.mem_of_getElem? (i := 2) rfl)) (ty := .long) (by decide) rfl rfl (g := (mkF m 46 #[.val (.ref o0), .val (.long (Int64.ofNat xhc4)), .second] [(.long (Int64.ofNat (xhc4 + 1))), (.ref o0)])) rfl rfl (hb hby d9_46)
    have Fw11 := F_a10.same W11
    have Zs11 : n0 ≤ h11.size := Nat.le_trans (Rr10.le) (Nat.le_of_eq W11.size.symm)
    have N11 := Fr.snoc X11 N10 R210.gS
    have F_l10_12 := (F_l10.other W11 (Or.inr (slot_ne (Or.inr (hw _ (List.mem_of_getElem? (i := 16) rfl))) (Or.inl (hw _ (List.mem_of_getElem? (i := 51) rfl))) (by decide) (t := (.array (.array .long))) (t' := .long) (by decide) (by decide))))
    have F_s10_13 := (F_s10.other W11 (Or.inr (slot_ne (Or.inr (hw _ (List.mem_of_getElem? (i := 11) rfl))) (Or.inl (hw _ (List.mem_of_getElem? (i := 51) rfl))) (by decide) (t := .int) (t' := .long) (by decide) (by decide))))
    obtain ⟨fs, hr, hrun, hended, hW, hsame⟩ := X11.leave (v := some (.int ((Int64.ofNat xhc4).toInt32))) (fun h => by rw [Bd.returns] at h; cases h)
    refine ⟨_, _, pre3 _ ?_, hrun, hended, _, _, rfl, ?_, ⟨_, rfl⟩, hW, hsame.mono (by decide) (by decide)⟩
    · skip
      show Steps p.tables e below (T2.setTop (mkF m 12 #[.val (.ref o0), .val (.long (Int64.ofNat xhc4)), .second] [(.int (lcmpW (Int64.ofNat xhc4) (0 : Int64)))])) _
      refine XS.ifYes X2.here hx rfl (pc0 := 12) (pc' := 21) rfl (hb hby d9_12) rfl ((if0 _ _).trans (flt hc4).2.1) (by decide) (by decide) ?_
      show Steps p.tables e below (T2.setTop (mkF m 21 #[.val (.ref o0), .val (.long (Int64.ofNat xhc4)), .second] [])) _
      refine XS.lloadN X2.here hx rfl (hb hby d9_21) rfl ?_
      show Steps p.tables e below (T2.setTop (mkF m 22 #[.val (.ref o0), .val (.long (Int64.ofNat xhc4)), .second] [(.long (Int64.ofNat xhc4))])) _
      refine XS.lconst X2.here hx rfl (hb hby d9_22) ?_
      show Steps p.tables e below (T2.setTop (mkF m 23 #[.val (.ref o0), .val (.long (Int64.ofNat xhc4)), .second] [(.long (0 : Int64)), (.long (Int64.ofNat xhc4))])) _
      refine XS.lcmp X2.here hx rfl (hb hby d9_23) rfl ?_
      show Steps p.tables e below (T2.setTop (mkF m 24 #[.val (.ref o0), .val (.long (Int64.ofNat xhc4)), .second] [(.int (lcmpW (Int64.ofNat xhc4) (0 : Int64)))])) _
      refine XS.ifYes X2.here hx rfl (pc0 := 24) (pc' := 37) rfl (hb hby d9_24) rfl ((if0 _ _).trans (flt (own_lcneg (hb31 xhc4 hxhc4))).2.1) (by decide) (by decide) ?_
      show Steps p.tables e below (T2.setTop (mkF m 37 #[.val (.ref o0), .val (.long (Int64.ofNat xhc4)), .second] [])) _
      refine XS.aloadN X2.here hx rfl (hb hby d9_37) rfl rfl ?_
      show Steps p.tables e below (T2.setTop (mkF m 38 #[.val (.ref o0), .val (.long (Int64.ofNat xhc4)), .second] [(.ref o0)])) _
      refine XS.lloadN X2.here hx rfl (hb hby d9_38) rfl ?_
      show Steps p.tables e below (T2.setTop (mkF m 39 #[.val (.ref o0), .val (.long (Int64.ofNat xhc4)), .second] [(.long (Int64.ofNat xhc4)), (.ref o0)])) _
      refine st10.trans ?_
      show Steps p.tables e below (T10.setTop (mkF m 42 #[.val (.ref o0), .val (.long (Int64.ofNat xhc4)), .second] [])) _
      refine XS.aloadN X10.here hx rfl (hb hby d9_42) rfl rfl ?_
      show Steps p.tables e below (T10.setTop (mkF m 43 #[.val (.ref o0), .val (.long (Int64.ofNat xhc4)), .second] [(.ref o0)])) _
      refine XS.lloadN X10.here hx rfl (hb hby d9_43) rfl ?_
      show Steps p.tables e below (T10.setTop (mkF m 44 #[.val (.ref o0), .val (.long (Int64.ofNat xhc4)), .second] [(.long (Int64.ofNat xhc4)), (.ref o0)])) _
      refine XS.lconst X10.here hx rfl (hb hby d9_44) ?_
      show Steps p.tables e below (T10.setTop (mkF m 45 #[.val (.ref o0), .val (.long (Int64.ofNat xhc4)), .second] [(.long (1 : Int64)), (.long (Int64.ofNat xhc4)), (.ref o0)])) _
      refine XS.ladd X10.here hx rfl (hb hby d9_45) rfl ?_
      show Steps p.tables e below (T10.setTop (mkF m 46 #[.val (.ref o0), .val (.long (Int64.ofNat xhc4)), .second] [(.long ((Int64.ofNat xhc4) + (1 : Int64))), (.ref o0)])) _
      rw [own_addL1]
      show Steps p.tables e below (T10.setTop (mkF m 46 #[.val (.ref o0), .val (.long (Int64.ofNat xhc4)), .second] [(.long (Int64.ofNat (xhc4 + 1))), (.ref o0)])) _
      refine st11 _ ?_
      show Steps p.tables e below (T11.setTop (mkF m 49 #[.val (.ref o0), .val (.long (Int64.ofNat xhc4)), .second] [])) _
      refine XS.lloadN X11.here hx rfl (hb hby d9_49) rfl ?_
      show Steps p.tables e below (T11.setTop (mkF m 50 #[.val (.ref o0), .val (.long (Int64.ofNat xhc4)), .second] [(.long (Int64.ofNat xhc4))])) _
      refine XS.l2i X11.here hx rfl (hb hby d9_50) rfl ?_
      show Steps p.tables e below (T11.setTop (mkF m 51 #[.val (.ref o0), .val (.long (Int64.ofNat xhc4)), .second] [(.int ((Int64.ofNat xhc4).toInt32))])) _
      exact retI X11 hx Bd.returns (hb hby d9_51) hr
    · show QTk Z n0 o0 sz M _ T11.heap _
      rw [e11]
      exact ⟨xhc4, _, rfl, N11, hxhc4, LV10, kV10, D10, xs10, ks10, N10f, f10, R210.aft W11 F_l10_12 F_s10_13 Fw11, Sh10, B10, hM10, (by have := hM xhc4 hxhc4; omega)⟩
theorem d1_65 : decode prog_103_method_1_code 65 = .ok (.iload 5, 2) := by decide +kernel
theorem d1_67 : decode prog_103_method_1_code 67 = .ok (.iload_n 2, 1) := by decide +kernel
theorem d1_68 : decode prog_103_method_1_code 68 = .ok (.if_icmp .ge 37, 3) := by decide +kernel
theorem d1_71 : decode prog_103_method_1_code 71 = .ok (.aload_n 0, 1) := by decide +kernel
theorem d1_72 : decode prog_103_method_1_code 72 = .ok (.getfield 32, 3) := by decide +kernel
theorem d1_75 : decode prog_103_method_1_code 75 = .ok (.iload 5, 2) := by decide +kernel
theorem d1_77 : decode prog_103_method_1_code 77 = .ok (.lconst 1, 1) := by decide +kernel
theorem d1_78 : decode prog_103_method_1_code 78 = .ok (.lload_n 3, 1) := by decide +kernel
theorem d1_79 : decode prog_103_method_1_code 79 = .ok (.invokestatic 26, 3) := by decide +kernel
theorem d1_82 : decode prog_103_method_1_code 82 = .ok (.invokestatic 36, 3) := by decide +kernel
theorem pd__JJ_J : parseMethodDescriptor "(JJ)J" = some ⟨[.long, .long], some .long⟩ := by decide +kernel
theorem d1_85 : decode prog_103_method_1_code 85 = .ok (.l2i, 1) := by decide +kernel
theorem d1_86 : decode prog_103_method_1_code 86 = .ok (.newarray .long, 2) := by decide +kernel
theorem d1_88 : decode prog_103_method_1_code 88 = .ok (.aastore, 1) := by decide +kernel
theorem d1_89 : decode prog_103_method_1_code 89 = .ok (.aload_n 0, 1) := by decide +kernel
theorem d1_90 : decode prog_103_method_1_code 90 = .ok (.getfield 32, 3) := by decide +kernel
theorem d1_93 : decode prog_103_method_1_code 93 = .ok (.iload 5, 2) := by decide +kernel
theorem d1_95 : decode prog_103_method_1_code 95 = .ok (.aaload, 1) := by decide +kernel
theorem d1_96 : decode prog_103_method_1_code 96 = .ok (.arraylength, 1) := by decide +kernel
theorem d1_97 : decode prog_103_method_1_code 97 = .ok (.i2l, 1) := by decide +kernel
theorem d1_98 : decode prog_103_method_1_code 98 = .ok (.lstore_n 3, 1) := by decide +kernel
theorem d1_99 : decode prog_103_method_1_code 99 = .ok (.iinc 5 1, 3) := by decide +kernel
theorem d1_102 : decode prog_103_method_1_code 102 = .ok (.goto (-37), 3) := by decide +kernel
set_option maxRecDepth 65536 in
set_option maxHeartbeats 40000000 in
theorem iniT {p : Program} {l : Launch} {e : Env} {s : State} {m : MethodId} {args : Array Value} {below : List Frame} {meth : Method} {c : Code} {T0 : State} {locs : List Loc} {cells slots : Nat} {Z : State} {a0 : Array Value} {h0 : Heap} (n0 : Nat) (S LV : Addr) (kV : ClassId) (D sz : Nat) (cc lev NN cap : Nat) (vs : Nat → Value) (X0 : Stand p l e ({ frames := 1, cells := 5, slots := 17412, locals := 20 } : Room) s m args below meth c T0 locs cells slots) (hx : p.tables.exec = Jvm.exec) (hZ : Z.Warmed39 s.vm) (hw : ∀ d ∈ tables_1, d.before a0 Z = true) (hby : c.code = prog_103_method_1_code) (hml : c.maxLocals = 6) (hown : s.vm.findClass "com/example/halfword/halfword/verify/RoundRobinSet" = some m.cls) (e0 : T0.heap = h0) (N0 : Fr n0 locs) (Z0 : n0 ≤ h0.size) (F_l : Fld Z h0 S "com/example/halfword/halfword/verify/RoundRobinSet" "levels" "[[J" (.ref LV)) (V_l : GA Z h0 LV kV (.array .long) D vs) (g_V : n0 ≤ LV) (nSV : LV ≠ S) (OV : OvrA Z kV .long "[J") (hl : lev < D) (hD : D ≤ 4) (hcc : cc ≤ 1048575) (hNN : (cc + 63) / 64 + (1 - (cc + 63) / 64) = NN) (hcap : NN ≤ cap) (hNb : NN ≤ 16384) (hcl : cells + 1 ≤ 5) (hsl : slots + cap ≤ 17412) :
    ∃ (T' : State) (h' : Heap) (b : Addr) (k' : ClassId) (locs' : List Loc), Stand p l e ({ frames := 1, cells := 5, slots := 17412, locals := 20 } : Room) s m args below meth c T' locs' (cells + 1) (slots + cap) ∧ Fr n0 locs' ∧ T'.heap = h' ∧ b = h0.size ∧ Keep h0 h' [LV] ∧ GA Z h' LV kV (.array .long) D (fun i => if i = lev then .ref b else vs i) ∧ GA Z h' b k' .long NN (fun _ => .long (0 : Int64)) ∧ ∀ target, Steps p.tables e below (T'.setTop (mkF m 65 #[.val (.ref S), .val (.int (Int32.ofNat sz)), .val (.int (Int32.ofNat D)), .val (.long (Int64.ofNat NN)), .second, .val (.int (Int32.ofNat (lev + 1)))] [])) target → Steps p.tables e below (T0.setTop (mkF m 65 #[.val (.ref S), .val (.int (Int32.ofNat sz)), .val (.int (Int32.ofNat D)), .val (.long (Int64.ofNat cc)), .second, .val (.int (Int32.ofNat lev))] [])) target := by
  have pre0 : ∀ t, Steps p.tables e below (T0.setTop (mkF m 65 #[.val (.ref S), .val (.int (Int32.ofNat sz)), .val (.int (Int32.ofNat D)), .val (.long (Int64.ofNat cc)), .second, .val (.int (Int32.ofNat lev))] [])) t → Steps p.tables e below (T0.setTop (mkF m 65 #[.val (.ref S), .val (.int (Int32.ofNat sz)), .val (.int (Int32.ofNat D)), .val (.long (Int64.ofNat cc)), .second, .val (.int (Int32.ofNat lev))] [])) t := fun _ k => k
  obtain ⟨T1, X1, e1, st1⟩ := getF X0 hx hZ hown (host := "") (Or.inl (hw _ (List.mem_of_getElem? (i := 15) rfl))) Via.refl e0 F_l (g := (mkF m 72 #[.val (.ref S), .val (.int (Int32.ofNat sz)), .val (.int (Int32.ofNat D)), .val (.long (Int64.ofNat cc)), .second, .val (.int (Int32.ofNat lev))] [(.ref S)])) rfl rfl (hb hby d1_72)
  obtain ⟨_, _, ⟨T2, L2, k2, n2⟩, -, X2, ⟨Lc2, hQ2, l2, y2, z2⟩, st2⟩ := Jvm.LawKit.callS X1 hx (y := (⟨"com/example/halfword/halfword/verify/RoundRobinSet", "words", "(J)J"⟩ : MethodName)) hown (mvT hZ (hw _ (List.mem_of_getElem? (i := 17) rfl))) (mvT hZ (hw _ (List.mem_of_getElem? (i := 18) rfl))) (mvT hZ (hw _ (List.mem_of_getElem? (i := 3) rfl))) (mvT hZ (hw _ (List.mem_of_getElem? (i := 19) rfl))) (by decide) (backOf (W := 4) (rWo l Z a0 hw [] cc (by omega) h0 n0 Z0) hZ (hw _ (List.mem_of_getElem? (i := 19) rfl)) (hw _ (List.mem_of_getElem? (i := 3) rfl)) (by decide) (by decide)) (g := (mkF m 79 #[.val (.ref S), .val (.int (Int32.ofNat sz)), .val (.int (Int32.ofNat D)), .val (.long (Int64.ofNat cc)), .second, .val (.int (Int32.ofNat lev))] [(.long (Int64.ofNat cc)), (.long (1 : Int64)), (.int (Int32.ofNat lev)), (.ref LV)])) rfl (by rw [hml]; rfl) (argsL := [(.long (Int64.ofNat cc))]) (rest := [(.long (1 : Int64)), (.int (Int32.ofNat lev)), (.ref LV)]) (lenOf pd__J_J rfl) rfl (by show 2 * 0 + _ ≤ _; exact Nat.le_of_eq rfl) (hb hby d1_79) (fun _ _ => ⟨rfl, e1, (show cells + 0 ≤ 5 from by omega), (show slots + 0 ≤ 17412 from by omega)⟩)
  dsimp only [Pt.U, Pt.locs, Pt.cells, Pt.slots] at X2 l2 y2 z2 st2 hQ2
  rw [l2, y2, z2] at X2
  obtain ⟨rfl, N2q, e2⟩ := hQ2
  have N2 := Fr.app N0 N2q
  obtain ⟨_, _, ⟨T3, L3, k3, n3⟩, -, X3, ⟨Lc3, hQ3, l3, y3, z3⟩, st3⟩ := Jvm.LawKit.callS X2 hx (y := (⟨"java/lang/Math", "max", "(JJ)J"⟩ : MethodName)) hown (mvT hZ (hw _ (List.mem_of_getElem? (i := 20) rfl))) (mvT hZ (hw _ (List.mem_of_getElem? (i := 21) rfl))) (mvT hZ (hw _ (List.mem_of_getElem? (i := 22) rfl))) (mvT hZ (hw _ (List.mem_of_getElem? (i := 23) rfl))) (by decide) (backOf (W := 2) (rMx l Z a0 hw [] ((cc + 63) / 64) NN (by omega) hNN h0 n0 Z0) hZ (hw _ (List.mem_of_getElem? (i := 23) rfl)) (hw _ (List.mem_of_getElem? (i := 22) rfl)) (by decide) (by decide)) (g := (mkF m 82 #[.val (.ref S), .val (.int (Int32.ofNat sz)), .val (.int (Int32.ofNat D)), .val (.long (Int64.ofNat cc)), .second, .val (.int (Int32.ofNat lev))] [(.long (Int64.ofNat ((cc + 63) / 64))), (.long (1 : Int64)), (.int (Int32.ofNat lev)), (.ref LV)])) rfl (by rw [hml]; rfl) (argsL := [(.long (1 : Int64)), (.long (Int64.ofNat ((cc + 63) / 64)))]) (rest := [(.int (Int32.ofNat lev)), (.ref LV)]) (lenOf pd__JJ_J rfl) rfl (by show 2 * 0 + _ ≤ _; exact Nat.le_of_eq rfl) (hb hby d1_82) (fun _ _ => ⟨rfl, e2, (show cells + 0 + 0 ≤ 5 from by omega), (show slots + 0 + 0 ≤ 17412 from by omega)⟩)
  dsimp only [Pt.U, Pt.locs, Pt.cells, Pt.slots] at X3 l3 y3 z3 st3 hQ3
  rw [l3, y3, z3] at X3
  obtain ⟨rfl, N3q, e3⟩ := hQ3
  have N3 := Fr.app N2 N3q
  obtain ⟨T4, h4, k4, X4, e4, E4, A4, Eb4, st4⟩ := newPE X3 hx hZ (hw _ (List.mem_of_getElem? (i := 24) rfl)) e3 (g := (mkF m 86 #[.val (.ref S), .val (.int (Int32.ofNat sz)), .val (.int (Int32.ofNat D)), .val (.long (Int64.ofNat cc)), .second, .val (.int (Int32.ofNat lev))] [(.int (Int32.ofNat NN)), (.int (Int32.ofNat lev)), (.ref LV)])) rfl (hb hby d1_86) rfl (by rw [Int32.lt_iff_toInt_lt, own_i32 (by omega)]; show ¬ (NN : Int) < 0; omega) (cap := cap) (by rw [own_cl (by omega)]; exact hcap) (by omega) (show cells + 0 + 0 + 1 ≤ 5 from by omega) (show slots + 0 + 0 + cap ≤ 17412 from by omega) (ad := "[J") (by decide)
  obtain ⟨b4, g4⟩ : ∃ z, z = h0.size := ⟨_, rfl⟩
  rw [← g4] at A4 Eb4 st4
  have g_b4 : n0 ≤ b4 := Nat.le_trans Z0 (Nat.le_of_eq g4.symm)
  have sz_b4 : h0.size ≤ b4 := Nat.le_trans (Keep.refl h0 [LV]).1 (Nat.le_of_eq g4.symm)
  have ne4_LV : LV ≠ b4 := Nat.ne_of_lt (Nat.lt_of_lt_of_le (V_l).lt (Nat.le_of_eq g4.symm))
  have Zs4 : n0 ≤ h4.size := Nat.le_trans Z0 E4.1
  have K4 : Keep h0 h4 [LV] := (Keep.refl h0 [LV]).ext E4
  have G4 : GA Z h4 b4 k4 .long NN (fun _ => .long (0 : Int64)) := GA.new A4 (own_cl (by omega))
  have V_l_6 := (V_l.ext E4)
  obtain ⟨cl5, Ar5, qa5, Sa5, Ha5⟩ := id V_l_6
  have hin5 : ¬ ((Int32.ofNat lev) < 0 ∨ cl5.slots.size ≤ (Int32.ofNat lev).toNatClampNeg) := own_inb Sa5 hl (show D < 2147483648 by omega)
  obtain ⟨T7, h7, X7, e7, W7, st7⟩ := stR X4 hx hZ e4 Ar5 (j := (Int32.ofNat lev)) hin5 rfl (Sto.ofVA Ar5 qa5 OV (Ins.self Eb4)) (g := (mkF m 88 #[.val (.ref S), .val (.int (Int32.ofNat sz)), .val (.int (Int32.ofNat D)), .val (.long (Int64.ofNat cc)), .second, .val (.int (Int32.ofNat lev))] [(.ref b4), (.int (Int32.ofNat lev)), (.ref LV)])) rfl rfl (hb hby d1_88)
  have V7 : GA Z h7 LV kV (.array .long) D (fun i => if i = lev then .ref b4 else vs i) := by
    have q := GA.set Ar5 qa5 Sa5 Ha5 W7
    rw [own_cl (by omega)] at q; exact q
  have Zs7 : n0 ≤ h7.size := Nat.le_trans Zs4 (Nat.le_of_eq W7.size.symm)
  have K7 : Keep h0 h7 [LV] := K4.wr W7 (Or.inl (List.mem_of_getElem? (i := 0) rfl))
  have N7 := Fr.snoc X7 N3 g_V
  have F_l_8 := ((F_l.ext E4).other W7 (Or.inl (Ne.symm nSV)))
  obtain ⟨T9, X9, e9, st9⟩ := getF X7 hx hZ hown (host := "") (Or.inl (hw _ (List.mem_of_getElem? (i := 15) rfl))) Via.refl e7 F_l_8 (g := (mkF m 90 #[.val (.ref S), .val (.int (Int32.ofNat sz)), .val (.int (Int32.ofNat D)), .val (.long (Int64.ofNat cc)), .second, .val (.int (Int32.ofNat lev))] [(.ref S)])) rfl rfl (hb hby d1_90)
  obtain ⟨cl10, Ar10, qa10, Sa10, Ha10⟩ := id V7
  have hin10 : ¬ ((Int32.ofNat lev) < 0 ∨ cl10.slots.size ≤ (Int32.ofNat lev).toNatClampNeg) := own_inb Sa10 hl (show D < 2147483648 by omega)
  have hat10 : cl10.slots[(Int32.ofNat lev).toNatClampNeg]? = some (.ref b4) := by rw [own_cl (Nat.lt_trans hl (show D < 2147483648 by omega))]; exact (by simpa using Ha10 lev hl)
  have G4_12 := (G4.other W7 (Ne.symm ne4_LV))
  obtain ⟨cl11, Ar11, -, Sa11, -⟩ := id G4_12
  have pre13 : ∀ t, Steps p.tables e below (T9.setTop (mkF m 65 #[.val (.ref S), .val (.int (Int32.ofNat sz)), .val (.int (Int32.ofNat D)), .val (.long (Int64.ofNat NN)), .second, .val (.int ((Int32.ofNat lev) + (1 : Int32)))] [])) t → Steps p.tables e below (T0.setTop (mkF m 65 #[.val (.ref S), .val (.int (Int32.ofNat sz)), .val (.int (Int32.ofNat D)), .val (.long (Int64.ofNat cc)), .second, .val (.int (Int32.ofNat lev))] [])) t := by
    intro t kt
    refine pre0 t ?_
    show Steps p.tables e below (T0.setTop (mkF m 65 #[.val (.ref S), .val (.int (Int32.ofNat sz)), .val (.int (Int32.ofNat D)), .val (.long (Int64.ofNat cc)), .second, .val (.int (Int32.ofNat lev))] [])) _
    refine XS.iload X0.here hx rfl (hb hby d1_65) rfl ?_
    show Steps p.tables e below (T0.setTop (mkF m 67 #[.val (.ref S), .val (.int (Int32.ofNat sz)), .val (.int (Int32.ofNat D)), .val (.long (Int64.ofNat cc)), .second, .val (.int (Int32.ofNat lev))] [(.int (Int32.ofNat lev))])) _
    refine XS.iloadN X0.here hx rfl (hb hby d1_67) rfl ?_
    show Steps p.tables e below (T0.setTop (mkF m 68 #[.val (.ref S), .val (.int (Int32.ofNat sz)), .val (.int (Int32.ofNat D)), .val (.long (Int64.ofNat cc)), .second, .val (.int (Int32.ofNat lev))] [(.int (Int32.ofNat D)), (.int (Int32.ofNat lev))])) _
    refine XS.icmpNo X0.here hx rfl (hb hby d1_68) rfl (tlt ((own_ltI (by omega) (by omega)).mpr hl)).2.1 ?_
    show Steps p.tables e below (T0.setTop (mkF m 71 #[.val (.ref S), .val (.int (Int32.ofNat sz)), .val (.int (Int32.ofNat D)), .val (.long (Int64.ofNat cc)), .second, .val (.int (Int32.ofNat lev))] [])) _
    refine XS.aloadN X0.here hx rfl (hb hby d1_71) rfl rfl ?_
    show Steps p.tables e below (T0.setTop (mkF m 72 #[.val (.ref S), .val (.int (Int32.ofNat sz)), .val (.int (Int32.ofNat D)), .val (.long (Int64.ofNat cc)), .second, .val (.int (Int32.ofNat lev))] [(.ref S)])) _
    refine st1 _ ?_
    show Steps p.tables e below (T1.setTop (mkF m 75 #[.val (.ref S), .val (.int (Int32.ofNat sz)), .val (.int (Int32.ofNat D)), .val (.long (Int64.ofNat cc)), .second, .val (.int (Int32.ofNat lev))] [(.ref LV)])) _
    refine XS.iload X1.here hx rfl (hb hby d1_75) rfl ?_
    show Steps p.tables e below (T1.setTop (mkF m 77 #[.val (.ref S), .val (.int (Int32.ofNat sz)), .val (.int (Int32.ofNat D)), .val (.long (Int64.ofNat cc)), .second, .val (.int (Int32.ofNat lev))] [(.int (Int32.ofNat lev)), (.ref LV)])) _
    refine XS.lconst X1.here hx rfl (hb hby d1_77) ?_
    show Steps p.tables e below (T1.setTop (mkF m 78 #[.val (.ref S), .val (.int (Int32.ofNat sz)), .val (.int (Int32.ofNat D)), .val (.long (Int64.ofNat cc)), .second, .val (.int (Int32.ofNat lev))] [(.long (1 : Int64)), (.int (Int32.ofNat lev)), (.ref LV)])) _
    refine XS.lloadN X1.here hx rfl (hb hby d1_78) rfl ?_
    show Steps p.tables e below (T1.setTop (mkF m 79 #[.val (.ref S), .val (.int (Int32.ofNat sz)), .val (.int (Int32.ofNat D)), .val (.long (Int64.ofNat cc)), .second, .val (.int (Int32.ofNat lev))] [(.long (Int64.ofNat cc)), (.long (1 : Int64)), (.int (Int32.ofNat lev)), (.ref LV)])) _
    refine st2 _ ?_
    show Steps p.tables e below (T2.setTop (mkF m 82 #[.val (.ref S), .val (.int (Int32.ofNat sz)), .val (.int (Int32.ofNat D)), .val (.long (Int64.ofNat cc)), .second, .val (.int (Int32.ofNat lev))] [(.long (Int64.ofNat ((cc + 63) / 64))), (.long (1 : Int64)), (.int (Int32.ofNat lev)), (.ref LV)])) _
    refine st3 _ ?_
    show Steps p.tables e below (T3.setTop (mkF m 85 #[.val (.ref S), .val (.int (Int32.ofNat sz)), .val (.int (Int32.ofNat D)), .val (.long (Int64.ofNat cc)), .second, .val (.int (Int32.ofNat lev))] [(.long (Int64.ofNat NN)), (.int (Int32.ofNat lev)), (.ref LV)])) _
    refine XS.l2i X3.here hx rfl (hb hby d1_85) rfl ?_
    show Steps p.tables e below (T3.setTop (mkF m 86 #[.val (.ref S), .val (.int (Int32.ofNat sz)), .val (.int (Int32.ofNat D)), .val (.long (Int64.ofNat cc)), .second, .val (.int (Int32.ofNat lev))] [(.int ((Int64.ofNat NN).toInt32)), (.int (Int32.ofNat lev)), (.ref LV)])) _
    rw [own_l2i (i := NN) (by omega)]
    show Steps p.tables e below (T3.setTop (mkF m 86 #[.val (.ref S), .val (.int (Int32.ofNat sz)), .val (.int (Int32.ofNat D)), .val (.long (Int64.ofNat cc)), .second, .val (.int (Int32.ofNat lev))] [(.int (Int32.ofNat NN)), (.int (Int32.ofNat lev)), (.ref LV)])) _
    refine st4 _ ?_
    show Steps p.tables e below (T4.setTop (mkF m 88 #[.val (.ref S), .val (.int (Int32.ofNat sz)), .val (.int (Int32.ofNat D)), .val (.long (Int64.ofNat cc)), .second, .val (.int (Int32.ofNat lev))] [(.ref b4), (.int (Int32.ofNat lev)), (.ref LV)])) _
    refine st7 _ ?_
    show Steps p.tables e below (T7.setTop (mkF m 89 #[.val (.ref S), .val (.int (Int32.ofNat sz)), .val (.int (Int32.ofNat D)), .val (.long (Int64.ofNat cc)), .second, .val (.int (Int32.ofNat lev))] [])) _
    refine XS.aloadN X7.here hx rfl (hb hby d1_89) rfl rfl ?_
    show Steps p.tables e below (T7.setTop (mkF m 90 #[.val (.ref S), .val (.int (Int32.ofNat sz)), .val (.int (Int32.ofNat D)), .val (.long (Int64.ofNat cc)), .second, .val (.int (Int32.ofNat lev))] [(.ref S)])) _
    refine st9 _ ?_
    show Steps p.tables e below (T9.setTop (mkF m 93 #[.val (.ref S), .val (.int (Int32.ofNat sz)), .val (.int (Int32.ofNat D)), .val (.long (Int64.ofNat cc)), .second, .val (.int (Int32.ofNat lev))] [(.ref LV)])) _
    refine XS.iload X9.here hx rfl (hb hby d1_93) rfl ?_
    show Steps p.tables e below (T9.setTop (mkF m 95 #[.val (.ref S), .val (.int (Int32.ofNat sz)), .val (.int (Int32.ofNat D)), .val (.long (Int64.ofNat cc)), .second, .val (.int (Int32.ofNat lev))] [(.int (Int32.ofNat lev)), (.ref LV)])) _
    refine X9.aaload hx (j := (Int32.ofNat lev)) (v := (.ref b4)) (by rw [e9]; exact Ar10.1) (State.isArrayOf_alike hZ.alike Ar10.2.1) rfl Ar10.2.2 hin10 hat10 (g := (mkF m 95 #[.val (.ref S), .val (.int (Int32.ofNat sz)), .val (.int (Int32.ofNat D)), .val (.long (Int64.ofNat cc)), .second, .val (.int (Int32.ofNat lev))] [(.int (Int32.ofNat lev)), (.ref LV)])) rfl rfl (hb hby d1_95) _ ?_
    show Steps p.tables e below (T9.setTop (mkF m 96 #[.val (.ref S), .val (.int (Int32.ofNat sz)), .val (.int (Int32.ofNat D)), .val (.long (Int64.ofNat cc)), .second, .val (.int (Int32.ofNat lev))] [(.ref b4)])) _
    refine X9.arraylength hx (by rw [e9]; exact Ar11.1) (State.isArrayOf_alike hZ.alike Ar11.2.1) (g := (mkF m 96 #[.val (.ref S), .val (.int (Int32.ofNat sz)), .val (.int (Int32.ofNat D)), .val (.long (Int64.ofNat cc)), .second, .val (.int (Int32.ofNat lev))] [(.ref b4)])) rfl rfl (hb hby d1_96) _ ?_
    rw [own_len Sa11]
    show Steps p.tables e below (T9.setTop (mkF m 97 #[.val (.ref S), .val (.int (Int32.ofNat sz)), .val (.int (Int32.ofNat D)), .val (.long (Int64.ofNat cc)), .second, .val (.int (Int32.ofNat lev))] [(.int (Int32.ofNat NN))])) _
    refine XS.i2l X9.here hx rfl (hb hby d1_97) rfl ?_
    show Steps p.tables e below (T9.setTop (mkF m 98 #[.val (.ref S), .val (.int (Int32.ofNat sz)), .val (.int (Int32.ofNat D)), .val (.long (Int64.ofNat cc)), .second, .val (.int (Int32.ofNat lev))] [(.long ((Int32.ofNat NN).toInt64))])) _
    rw [own_i2l (i := NN) (by omega)]
    show Steps p.tables e below (T9.setTop (mkF m 98 #[.val (.ref S), .val (.int (Int32.ofNat sz)), .val (.int (Int32.ofNat D)), .val (.long (Int64.ofNat cc)), .second, .val (.int (Int32.ofNat lev))] [(.long (Int64.ofNat NN))])) _
    refine XS.lstoreN X9.here hx rfl (hb hby d1_98) rfl (l' := #[.val (.ref S), .val (.int (Int32.ofNat sz)), .val (.int (Int32.ofNat D)), .val (.long (Int64.ofNat NN)), .second, .val (.int (Int32.ofNat lev))]) rfl ?_
    show Steps p.tables e below (T9.setTop (mkF m 99 #[.val (.ref S), .val (.int (Int32.ofNat sz)), .val (.int (Int32.ofNat D)), .val (.long (Int64.ofNat NN)), .second, .val (.int (Int32.ofNat lev))] [])) _
    refine XS.iinc X9.here hx rfl (hb hby d1_99) rfl (l' := #[.val (.ref S), .val (.int (Int32.ofNat sz)), .val (.int (Int32.ofNat D)), .val (.long (Int64.ofNat NN)), .second, .val (.int ((Int32.ofNat lev) + (1 : Int32)))]) rfl ?_
    show Steps p.tables e below (T9.setTop (mkF m 102 #[.val (.ref S), .val (.int (Int32.ofNat sz)), .val (.int (Int32.ofNat D)), .val (.long (Int64.ofNat NN)), .second, .val (.int ((Int32.ofNat lev) + (1 : Int32)))] [])) _
    refine XS.goto X9.here hx rfl (pc0 := 102) (pc' := 65) rfl (hb hby d1_102) (by decide) (by decide) ?_
    exact kt
  exact ⟨T9, h7, b4, k4, _, X9, N7, e9, g4.trans rfl, K7, V7, G4_12, fun target kt => pre13 target (by rw [own_oneI]; exact kt)⟩
set_option maxRecDepth 65536 in
set_option maxHeartbeats 40000000 in
theorem iniM {p : Program} {l : Launch} {e : Env} {s : State} {m : MethodId} {args : Array Value} {below : List Frame} {meth : Method} {c : Code} {T0 : State} {locs : List Loc} {cells slots : Nat} {Z : State} {a0 : Array Value} {h0 : Heap} (S : Addr) (D sz cc : Nat) (X0 : Stand p l e ({ frames := 1, cells := 5, slots := 17412, locals := 20 } : Room) s m args below meth c T0 locs cells slots) (hx : p.tables.exec = Jvm.exec) (hZ : Z.Warmed39 s.vm) (hw : ∀ d ∈ tables_1, d.before a0 Z = true) (hby : c.code = prog_103_method_1_code) (hml : c.maxLocals = 6) (hown : s.vm.findClass "com/example/halfword/halfword/verify/RoundRobinSet" = some m.cls) (e0 : T0.heap = h0) (hD : D ≤ 4) :
    ∃ (T' : State) (Ls : Array Slot), Stand p l e ({ frames := 1, cells := 5, slots := 17412, locals := 20 } : Room) s m args below meth c T' locs cells slots ∧ T'.heap = h0 ∧ ∀ target, Steps p.tables e below (T'.setTop (mkF m 105 Ls [])) target → Steps p.tables e below (T0.setTop (mkF m 65 #[.val (.ref S), .val (.int (Int32.ofNat sz)), .val (.int (Int32.ofNat D)), .val (.long (Int64.ofNat cc)), .second, .val (.int (Int32.ofNat D))] [])) target := by
  have pre0 : ∀ t, Steps p.tables e below (T0.setTop (mkF m 65 #[.val (.ref S), .val (.int (Int32.ofNat sz)), .val (.int (Int32.ofNat D)), .val (.long (Int64.ofNat cc)), .second, .val (.int (Int32.ofNat D))] [])) t → Steps p.tables e below (T0.setTop (mkF m 65 #[.val (.ref S), .val (.int (Int32.ofNat sz)), .val (.int (Int32.ofNat D)), .val (.long (Int64.ofNat cc)), .second, .val (.int (Int32.ofNat D))] [])) t := fun _ k => k
  have pre1 : ∀ t, Steps p.tables e below (T0.setTop (mkF m 105 #[.val (.ref S), .val (.int (Int32.ofNat sz)), .val (.int (Int32.ofNat D)), .val (.long (Int64.ofNat cc)), .second, .val (.int (Int32.ofNat D))] [])) t → Steps p.tables e below (T0.setTop (mkF m 65 #[.val (.ref S), .val (.int (Int32.ofNat sz)), .val (.int (Int32.ofNat D)), .val (.long (Int64.ofNat cc)), .second, .val (.int (Int32.ofNat D))] [])) t := by
    intro t kt
    refine pre0 t ?_
    show Steps p.tables e below (T0.setTop (mkF m 65 #[.val (.ref S), .val (.int (Int32.ofNat sz)), .val (.int (Int32.ofNat D)), .val (.long (Int64.ofNat cc)), .second, .val (.int (Int32.ofNat D))] [])) _
    refine XS.iload X0.here hx rfl (hb hby d1_65) rfl ?_
    show Steps p.tables e below (T0.setTop (mkF m 67 #[.val (.ref S), .val (.int (Int32.ofNat sz)), .val (.int (Int32.ofNat D)), .val (.long (Int64.ofNat cc)), .second, .val (.int (Int32.ofNat D))] [(.int (Int32.ofNat D))])) _
    refine XS.iloadN X0.here hx rfl (hb hby d1_67) rfl ?_
    show Steps p.tables e below (T0.setTop (mkF m 68 #[.val (.ref S), .val (.int (Int32.ofNat sz)), .val (.int (Int32.ofNat D)), .val (.long (Int64.ofNat cc)), .second, .val (.int (Int32.ofNat D))] [(.int (Int32.ofNat D)), (.int (Int32.ofNat D))])) _
    refine XS.icmpYes X0.here hx rfl (pc0 := 68) (pc' := 105) rfl (hb hby d1_68) rfl (flt (fun q => absurd ((own_ltI (by omega) (by omega)).mp q) (Nat.lt_irrefl D))).2.1 (by decide) (by decide) ?_
    exact kt
  exact ⟨T0, _, X0, e0, fun target kt => pre1 target kt⟩
theorem d1_105 : decode prog_103_method_1_code 105 = .ok (.return_, 1) := by decide +kernel
set_option maxRecDepth 65536 in
set_option maxHeartbeats 40000000 in
theorem iniL {p : Program} {l : Launch} {e : Env} {s : State} {m : MethodId} {args : Array Value} {below : List Frame} {meth : Method} {c : Code} {Z : State} {a0 : Array Value} (n0 : Nat) (S LV : Addr) (kV : ClassId) (D sz : Nat) (hx : p.tables.exec = Jvm.exec) (hZ : Z.Warmed39 s.vm) (hw : ∀ d ∈ tables_1, d.before a0 Z = true) (hby : c.code = prog_103_method_1_code) (hml : c.maxLocals = 6) (hown : s.vm.findClass "com/example/halfword/halfword/verify/RoundRobinSet" = some m.cls) (OV : OvrA Z kV .long "[J") (hD4 : D ≤ 4) (hsz : sz ≤ 1048575) (nSV : LV ≠ S) (g_V : n0 ≤ LV) :
    ∀ (n lev : Nat) (T0 : State) (locs : List Loc) (cells slots : Nat) (vs : Nat → Value) (xs : Nat → Addr) (ks : Nat → ClassId), lev + n = D → Stand p l e ({ frames := 1, cells := 5, slots := 17412, locals := 20 } : Room) s m args below meth c T0 locs cells slots → cells ≤ 1 + lev → slots ≤ (if lev = 0 then 4 else 16388 + 256 * lev) → Fld Z T0.heap S "com/example/halfword/halfword/verify/RoundRobinSet" "levels" "[[J" (.ref LV) → S < T0.heap.size → n0 ≤ T0.heap.size → Fr n0 locs → (GA Z T0.heap LV kV (.array .long) D vs ∧ (∀ j, j < lev → vs j = .ref (xs j)) ∧ (∀ j, j < lev → GA Z T0.heap (xs j) (ks j) .long (cN sz (j + 1)) (fun _ => .long (0 : Int64))) ∧ (∀ j, j < lev → n0 ≤ xs j ∧ xs j ≠ S ∧ xs j ≠ LV) ∧ (∀ i j, i < lev → j < lev → i ≠ j → xs i ≠ xs j)) →
      ∃ (T' : State) (locs' : List Loc) (vs' : Nat → Value) (xs' : Nat → Addr) (ks' : Nat → ClassId) (Ls : Array Slot), Stand p l e ({ frames := 1, cells := 5, slots := 17412, locals := 20 } : Room) s m args below meth c T' locs' 5 17412 ∧ Fr n0 locs' ∧ Keep T0.heap T'.heap [LV] ∧ (GA Z T'.heap LV kV (.array .long) D vs' ∧ (∀ j, j < D → vs' j = .ref (xs' j)) ∧ (∀ j, j < D → GA Z T'.heap (xs' j) (ks' j) .long (cN sz (j + 1)) (fun _ => .long (0 : Int64))) ∧ (∀ j, j < D → n0 ≤ xs' j ∧ xs' j ≠ S ∧ xs' j ≠ LV) ∧ (∀ i j, i < D → j < D → i ≠ j → xs' i ≠ xs' j)) ∧ ∀ target, Steps p.tables e below (T'.setTop (mkF m 105 Ls [])) target → Steps p.tables e below (T0.setTop (mkF m 65 #[.val (.ref S), .val (.int (Int32.ofNat sz)), .val (.int (Int32.ofNat D)), .val (.long (Int64.ofNat (cN sz lev))), .second, .val (.int (Int32.ofNat lev))] [])) target := by
  intro n
  induction n with
  | zero =>
    intro lev T0 locs cells slots vs xs ks hn X0 hc hs F_l hS hZ0 N0 I0
    obtain rfl : lev = D := by omega
    obtain ⟨T1, Ls, X1, e1, st⟩ := iniM S lev sz (cN sz lev) X0 hx hZ hw hby hml hown rfl hD4
    refine ⟨T1, locs, vs, xs, ks, Ls, X1.more (by omega) (by split at hs <;> omega), N0, ?_, ?_, st⟩
    · rw [e1]; exact Keep.refl _ _
    · rw [e1]; exact I0
  | succ n ih =>
    intro lev T0 locs cells slots vs xs ks hn X0 hc hs F_l hS hZ0 N0 I0
    obtain ⟨V_l, hvs, hG, hd, hnd⟩ := I0
    have hl : lev < D := by omega
    have hcap : cN sz (lev + 1) ≤ (if lev = 0 then 16384 else 256) := by
      split
      · exact own_cN_le' hsz lev
      · obtain ⟨q, rfl⟩ : ∃ q, lev = q + 1 := ⟨lev - 1, by omega⟩
        exact own_cN_256 hsz q
    obtain ⟨T1, h1, b, k', l1, X1, N1, e1, hbs, K1, V1, G1, st⟩ := iniT n0 S LV kV D sz (cN sz lev) lev (cN sz (lev + 1)) (if lev = 0 then 16384 else 256) vs X0 hx hZ hw hby hml hown rfl N0 hZ0 F_l V_l g_V nSV OV hl hD4 (own_cN_le hsz lev) rfl hcap (own_cN_le' hsz lev) (by omega) (by by_cases q : lev = 0 <;> simp only [q, if_true, if_false] at hs ⊢ <;> omega)
    subst e1
    have hlt : ∀ j, j < lev → xs j < b := fun j hj => by rw [hbs]; exact (hG j hj).lt
    have hbV : b ≠ LV := fun q => Nat.lt_irrefl LV (by have z := V_l.lt; rw [← hbs, q] at z; exact z)
    have hbS : b ≠ S := fun q => Nat.lt_irrefl S (by have z := hS; rw [← hbs, q] at z; exact z)
    obtain ⟨T2, l2, vs2, xs2, ks2, Ls, X2, N2, K2, I2, st2⟩ := ih (lev + 1) T1 l1 _ _ _ (fun j => if j = lev then b else xs j) (fun j => if j = lev then k' else ks j) (by omega) X1 (by omega) (by by_cases q : lev = 0 <;> simp [q] at hs ⊢ <;> omega) (F_l.keep K1 (ninS nSV.symm nin0)) (Nat.lt_of_lt_of_le hS K1.1) (Nat.le_trans hZ0 K1.1) N1 ⟨V1, fun j hj => by
        by_cases q : j = lev
        · simp [q]
        · simp only [q, if_false]; exact hvs j (by omega), fun j hj => by
        by_cases q : j = lev
        · subst q; simp only [if_true]; exact G1
        · simp only [q, if_false]; exact (hG j (by omega)).keep K1 (ninS (hd j (by omega)).2.2 nin0), fun j hj => by
        by_cases q : j = lev
        · subst q; simp only [if_true]; exact ⟨by rw [hbs]; exact hZ0, hbS, hbV⟩
        · simp only [q, if_false]; exact hd j (by omega), fun i j hi hj hij => by
        by_cases q : i = lev
        · subst q
          have q2 : ¬ j = i := fun z => hij z.symm
          simp only [if_true, q2, if_false]
          exact Ne.symm (Nat.ne_of_lt (hlt j (by omega)))
        · by_cases q2 : j = lev
          · subst q2
            simp only [if_true, q, if_false]
            exact Nat.ne_of_lt (hlt i (by omega))
          · simp only [q, q2, if_false]; exact hnd i j (by omega) (by omega) hij⟩
    exact ⟨T2, l2, vs2, xs2, ks2, Ls, X2, N2, K1.trans K2 (allS (Or.inl (List.mem_of_getElem? (i := 0) rfl)) all0), I2, fun target kt => st target (st2 target kt)⟩
theorem d1_0 : decode prog_103_method_1_code 0 = .ok (.aload_n 0, 1) := by decide +kernel
theorem d1_1 : decode prog_103_method_1_code 1 = .ok (.invokespecial 1, 3) := by decide +kernel
theorem d1_4 : decode prog_103_method_1_code 4 = .ok (.iload_n 1, 1) := by decide +kernel
theorem d1_5 : decode prog_103_method_1_code 5 = .ok (.ifCond .ge 17, 3) := by decide +kernel
theorem d1_22 : decode prog_103_method_1_code 22 = .ok (.aload_n 0, 1) := by decide +kernel
theorem d1_23 : decode prog_103_method_1_code 23 = .ok (.iload_n 1, 1) := by decide +kernel
theorem d1_24 : decode prog_103_method_1_code 24 = .ok (.putfield 16, 3) := by decide +kernel
theorem d1_27 : decode prog_103_method_1_code 27 = .ok (.iconst 1, 1) := by decide +kernel
theorem d1_28 : decode prog_103_method_1_code 28 = .ok (.istore_n 2, 1) := by decide +kernel
theorem d1_29 : decode prog_103_method_1_code 29 = .ok (.iload_n 1, 1) := by decide +kernel
theorem d1_30 : decode prog_103_method_1_code 30 = .ok (.i2l, 1) := by decide +kernel
theorem d1_31 : decode prog_103_method_1_code 31 = .ok (.lstore_n 3, 1) := by decide +kernel
theorem d1_32 : decode prog_103_method_1_code 32 = .ok (.lload_n 3, 1) := by decide +kernel
theorem d1_33 : decode prog_103_method_1_code 33 = .ok (.ldc2_w 24, 3) := by decide +kernel
theorem d1_36 : decode prog_103_method_1_code 36 = .ok (.lcmp, 1) := by decide +kernel
theorem d1_37 : decode prog_103_method_1_code 37 = .ok (.ifCond .le 14, 3) := by decide +kernel
theorem d1_40 : decode prog_103_method_1_code 40 = .ok (.iinc 2 1, 3) := by decide +kernel
theorem d1_43 : decode prog_103_method_1_code 43 = .ok (.lload_n 3, 1) := by decide +kernel
theorem d1_44 : decode prog_103_method_1_code 44 = .ok (.invokestatic 26, 3) := by decide +kernel
theorem d1_47 : decode prog_103_method_1_code 47 = .ok (.lstore_n 3, 1) := by decide +kernel
theorem d1_48 : decode prog_103_method_1_code 48 = .ok (.goto (-16), 3) := by decide +kernel
theorem d1_51 : decode prog_103_method_1_code 51 = .ok (.aload_n 0, 1) := by decide +kernel
theorem d1_52 : decode prog_103_method_1_code 52 = .ok (.iload_n 2, 1) := by decide +kernel
theorem d1_53 : decode prog_103_method_1_code 53 = .ok (.anewarray 30, 3) := by decide +kernel
theorem d1_56 : decode prog_103_method_1_code 56 = .ok (.putfield 32, 3) := by decide +kernel
theorem d1_59 : decode prog_103_method_1_code 59 = .ok (.iload_n 1, 1) := by decide +kernel
theorem d1_60 : decode prog_103_method_1_code 60 = .ok (.i2l, 1) := by decide +kernel
theorem d1_61 : decode prog_103_method_1_code 61 = .ok (.lstore_n 3, 1) := by decide +kernel
theorem d1_62 : decode prog_103_method_1_code 62 = .ok (.iconst 0, 1) := by decide +kernel
theorem d1_63 : decode prog_103_method_1_code 63 = .ok (.istore 5, 2) := by decide +kernel
theorem pn_1 : plainName "com/example/halfword/halfword/verify/RoundRobinSet" = true := by first | (simp [plainName, overriddenIn]; done) | decide +kernel
theorem ef_rIn (m : MethodId) (x0 : Addr) (x1 : Int32) : entryFrame m #[(.ref x0), (.int x1)] 6 = mkF m 0 #[.val (.ref x0), .val (.int x1), .unset, .unset, .unset, .unset] [] := by first | (simp [entryFrame, mkF, argsToLocals, Value.category]; done) | rfl
set_option maxRecDepth 65536 in
set_option maxHeartbeats 40000000 in
theorem rIn (l : Launch) (Z : State) (a0 : Array Value) (hw : ∀ d ∈ tables_1, d.before a0 Z = true) (ws : List Jvm.Cond) (o0 : Addr) (sz : Nat) (hsz : sz ≤ 1048575) (h0 : Heap) (n0 : Nat) (Z0 : n0 ≤ h0.size) (E_o : Exa Z h0 o0 "com/example/halfword/halfword/verify/RoundRobinSet") (g_o : n0 ≤ o0) (F_s : Fld Z h0 o0 "com/example/halfword/halfword/verify/RoundRobinSet" "size" "I" (.int 0)) (F_l : Fld Z h0 o0 "com/example/halfword/halfword/verify/RoundRobinSet" "levels" "[[J" .null) (F_a : Fld Z h0 o0 "com/example/halfword/halfword/verify/RoundRobinSet" "after" "J" (.long 0)) :
    MetFree l (⟨"com/example/halfword/halfword/verify/RoundRobinSet", "<init>", "(I)V"⟩ : MethodName) (head1 (Jvm.Cond.code (⟨"com/example/halfword/halfword/verify/RoundRobinSet", "<init>", "(I)V"⟩ : MethodName) prog_103_method_1_code 6 none :: ws) ({ frames := 1, cells := 5, slots := 17412, locals := 20 } : Room)) (fun a U => a = #[(.ref o0), (.int (Int32.ofNat sz))] ∧ Z.Warmed39 U.vm ∧ U.heap = h0) (fun _ _ _ _ _ => True) (fun _ U o U' => ∃ v L, o = .returned v ∧ QRS Z n0 o0 sz 0 (fun _ => False) v U'.heap L ∧ FrameEnd U o U' L ({ frames := 1, cells := 5, slots := 17412, locals := 20 } : Room).cells ({ frames := 1, cells := 5, slots := 17412, locals := 20 } : Room).slots) := by
  refine MetFree.of_bodySF (plainFor_of_name pn_1) hisR ?_
  intro p e s m args below meth c s₁ Bd hml0 hP hK
  obtain ⟨rfl, hZ, hh⟩ := hP
  have hx := Bd.exec
  have hby := Bd.bytes
  have hml : c.maxLocals = 6 := hml0
  have hown : s.vm.findClass "com/example/halfword/halfword/verify/RoundRobinSet" = some m.cls := findClass_of_methodNamed Bd.named
  have hnm := (name_of_methodNamed Bd.named Bd.method).1
  have X0 : Stand p l e ({ frames := 1, cells := 5, slots := 17412, locals := 20 } : Room) s m #[(.ref o0), (.int (Int32.ofNat sz))] below meth c s₁ [] 0 0 := Stand.of_body Bd
  have e0 : s₁.heap = h0 := by rw [← hh, Bd.state]; rfl
  have N0 := Fr.nil n0
  have pre0 : ∀ t, Steps p.tables e below (s₁.setTop (mkF m 0 #[.val (.ref o0), .val (.int (Int32.ofNat sz)), .unset, .unset, .unset, .unset] [])) t → Steps p.tables e below (s₁.setTop (entryFrame m #[(.ref o0), (.int (Int32.ofNat sz))] 6)) t := fun t k => castTop (ef_rIn m o0 (Int32.ofNat sz)) k
  obtain ⟨T1, X1, e1, st1⟩ := initO X0 hx hZ hown (hw _ (List.mem_of_getElem? (i := 7) rfl)) (hw _ (List.mem_of_getElem? (i := 8) rfl)) (hw _ (List.mem_of_getElem? (i := 9) rfl)) e0 (g := (mkF m 1 #[.val (.ref o0), .val (.int (Int32.ofNat sz)), .unset, .unset, .unset, .unset] [(.ref o0)])) rfl (by rw [hml]; rfl) rfl (hb hby d1_1) (by decide) (W := 0) (by show 2 * 0 + _ ≤ _; exact Nat.le_of_eq rfl) (by decide)
  obtain ⟨T2, h2, X2, e2, W2, st2⟩ := putF X1 hx hZ hown (host := "") (Or.inl (hw _ (List.mem_of_getElem? (i := 10) rfl))) Via.refl e1 F_s E_o (Or.inr ⟨(hw _ (List.mem_of_getElem? (i := 11) rfl)), rfl, hnm⟩) (hw _ (List.mem_of_getElem? (i := 2) rfl)) (ty := .int) (by decide) rfl rfl (g := (mkF m 24 #[.val (.ref o0), .val (.int (Int32.ofNat sz)), .unset, .unset, .unset, .unset] [(.int (Int32.ofNat sz)), (.ref o0)])) rfl rfl (hb hby d1_24)
  have Fw2 := F_s.same W2
  have Zs2 : n0 ≤ h2.size := Nat.le_trans Z0 (Nat.le_of_eq W2.size.symm)
  have N2 := Fr.snoc X2 N0 g_o
  have pre3 : ∀ t, Steps p.tables e below (T2.setTop (mkF m 37 #[.val (.ref o0), .val (.int (Int32.ofNat sz)), .val (.int (1 : Int32)), .val (.long (Int64.ofNat sz)), .second, .unset] [(.int (lcmpW (Int64.ofNat sz) (64 : Int64)))])) t → Steps p.tables e below (s₁.setTop (entryFrame m #[(.ref o0), (.int (Int32.ofNat sz))] 6)) t := by
    intro t kt
    refine pre0 t ?_
    show Steps p.tables e below (s₁.setTop (mkF m 0 #[.val (.ref o0), .val (.int (Int32.ofNat sz)), .unset, .unset, .unset, .unset] [])) _
    refine XS.aloadN X0.here hx rfl (hb hby d1_0) rfl rfl ?_
    show Steps p.tables e below (s₁.setTop (mkF m 1 #[.val (.ref o0), .val (.int (Int32.ofNat sz)), .unset, .unset, .unset, .unset] [(.ref o0)])) _
    refine st1 _ ?_
    show Steps p.tables e below (T1.setTop (mkF m 4 #[.val (.ref o0), .val (.int (Int32.ofNat sz)), .unset, .unset, .unset, .unset] [])) _
    refine XS.iloadN X1.here hx rfl (hb hby d1_4) rfl ?_
    show Steps p.tables e below (T1.setTop (mkF m 5 #[.val (.ref o0), .val (.int (Int32.ofNat sz)), .unset, .unset, .unset, .unset] [(.int (Int32.ofNat sz))])) _
    refine XS.ifYes X1.here hx rfl (pc0 := 5) (pc' := 22) rfl (hb hby d1_5) rfl ((if0 _ _).trans (flt (by rw [Int32.lt_iff_toInt_lt, own_i32 (by omega)]; show ¬ (sz : Int) < 0; omega)).2.1) (by decide) (by decide) ?_
    show Steps p.tables e below (T1.setTop (mkF m 22 #[.val (.ref o0), .val (.int (Int32.ofNat sz)), .unset, .unset, .unset, .unset] [])) _
    refine XS.aloadN X1.here hx rfl (hb hby d1_22) rfl rfl ?_
    show Steps p.tables e below (T1.setTop (mkF m 23 #[.val (.ref o0), .val (.int (Int32.ofNat sz)), .unset, .unset, .unset, .unset] [(.ref o0)])) _
    refine XS.iloadN X1.here hx rfl (hb hby d1_23) rfl ?_
    show Steps p.tables e below (T1.setTop (mkF m 24 #[.val (.ref o0), .val (.int (Int32.ofNat sz)), .unset, .unset, .unset, .unset] [(.int (Int32.ofNat sz)), (.ref o0)])) _
    refine st2 _ ?_
    show Steps p.tables e below (T2.setTop (mkF m 27 #[.val (.ref o0), .val (.int (Int32.ofNat sz)), .unset, .unset, .unset, .unset] [])) _
    refine XS.iconst X2.here hx rfl (hb hby d1_27) ?_
    show Steps p.tables e below (T2.setTop (mkF m 28 #[.val (.ref o0), .val (.int (Int32.ofNat sz)), .unset, .unset, .unset, .unset] [(.int (1 : Int32))])) _
    refine XS.istoreN X2.here hx rfl (hb hby d1_28) rfl (l' := #[.val (.ref o0), .val (.int (Int32.ofNat sz)), .val (.int (1 : Int32)), .unset, .unset, .unset]) rfl ?_
    show Steps p.tables e below (T2.setTop (mkF m 29 #[.val (.ref o0), .val (.int (Int32.ofNat sz)), .val (.int (1 : Int32)), .unset, .unset, .unset] [])) _
    refine XS.iloadN X2.here hx rfl (hb hby d1_29) rfl ?_
    show Steps p.tables e below (T2.setTop (mkF m 30 #[.val (.ref o0), .val (.int (Int32.ofNat sz)), .val (.int (1 : Int32)), .unset, .unset, .unset] [(.int (Int32.ofNat sz))])) _
    refine XS.i2l X2.here hx rfl (hb hby d1_30) rfl ?_
    show Steps p.tables e below (T2.setTop (mkF m 31 #[.val (.ref o0), .val (.int (Int32.ofNat sz)), .val (.int (1 : Int32)), .unset, .unset, .unset] [(.long ((Int32.ofNat sz).toInt64))])) _
    rw [own_i2l (i := sz) (by omega)]
    show Steps p.tables e below (T2.setTop (mkF m 31 #[.val (.ref o0), .val (.int (Int32.ofNat sz)), .val (.int (1 : Int32)), .unset, .unset, .unset] [(.long (Int64.ofNat sz))])) _
    refine XS.lstoreN X2.here hx rfl (hb hby d1_31) rfl (l' := #[.val (.ref o0), .val (.int (Int32.ofNat sz)), .val (.int (1 : Int32)), .val (.long (Int64.ofNat sz)), .second, .unset]) rfl ?_
    show Steps p.tables e below (T2.setTop (mkF m 32 #[.val (.ref o0), .val (.int (Int32.ofNat sz)), .val (.int (1 : Int32)), .val (.long (Int64.ofNat sz)), .second, .unset] [])) _
    refine XS.lloadN X2.here hx rfl (hb hby d1_32) rfl ?_
    show Steps p.tables e below (T2.setTop (mkF m 33 #[.val (.ref o0), .val (.int (Int32.ofNat sz)), .val (.int (1 : Int32)), .val (.long (Int64.ofNat sz)), .second, .unset] [(.long (Int64.ofNat sz))])) _
    refine X2.ldc2Long hx hown (mvT hZ (hw _ (List.mem_of_getElem? (i := 12) rfl))) (g := (mkF m 33 #[.val (.ref o0), .val (.int (Int32.ofNat sz)), .val (.int (1 : Int32)), .val (.long (Int64.ofNat sz)), .second, .unset] [(.long (Int64.ofNat sz))])) rfl (hb hby d1_33) _ ?_
    show Steps p.tables e below (T2.setTop (mkF m 36 #[.val (.ref o0), .val (.int (Int32.ofNat sz)), .val (.int (1 : Int32)), .val (.long (Int64.ofNat sz)), .second, .unset] [(.long (64 : Int64)), (.long (Int64.ofNat sz))])) _
    refine XS.lcmp X2.here hx rfl (hb hby d1_36) rfl ?_
    exact kt
  by_cases hc4 : (0 : Int32) < (lcmpW (Int64.ofNat sz) (64 : Int64))
  · skip
    have hc4' : 64 < sz := (own_lc64 (by omega)).mp hc4
    obtain ⟨_, _, ⟨T5, L5, k5, n5⟩, -, X5, ⟨Lc5, hQ5, l5, y5, z5⟩, st5⟩ := Jvm.LawKit.callS X2 hx (y := (⟨"com/example/halfword/halfword/verify/RoundRobinSet", "words", "(J)J"⟩ : MethodName)) hown (mvT hZ (hw _ (List.mem_of_getElem? (i := 17) rfl))) (mvT hZ (hw _ (List.mem_of_getElem? (i := 18) rfl))) (mvT hZ (hw _ (List.mem_of_getElem? (i := 3) rfl))) (mvT hZ (hw _ (List.mem_of_getElem? (i := 19) rfl))) (by decide) (backOf (W := 0) (rWo l Z a0 hw [] sz (by omega) h2 n0 Zs2) hZ (hw _ (List.mem_of_getElem? (i := 19) rfl)) (hw _ (List.mem_of_getElem? (i := 3) rfl)) (by decide) (by decide)) (g := (mkF m 44 #[.val (.ref o0), .val (.int (Int32.ofNat sz)), .val (.int ((1 : Int32) + (1 : Int32))), .val (.long (Int64.ofNat sz)), .second, .unset] [(.long (Int64.ofNat sz))])) rfl (by rw [hml]; rfl) (argsL := [(.long (Int64.ofNat sz))]) (rest := []) (lenOf pd__J_J rfl) rfl (by show 2 * 0 + _ ≤ _; exact Nat.le_of_eq rfl) (hb hby d1_44) (fun _ _ => ⟨rfl, e2, (by decide : 0 + 0 ≤ _), (by decide : 0 + 0 ≤ _)⟩)
    dsimp only [Pt.U, Pt.locs, Pt.cells, Pt.slots] at X5 l5 y5 z5 st5 hQ5
    rw [l5, y5, z5] at X5
    obtain ⟨rfl, N5q, e5⟩ := hQ5
    have N5 := Fr.app N2 N5q
    have pre6 : ∀ t, Steps p.tables e below (T5.setTop (mkF m 37 #[.val (.ref o0), .val (.int (Int32.ofNat sz)), .val (.int ((1 : Int32) + (1 : Int32))), .val (.long (Int64.ofNat ((sz + 63) / 64))), .second, .unset] [(.int (lcmpW (Int64.ofNat ((sz + 63) / 64)) (64 : Int64)))])) t → Steps p.tables e below (s₁.setTop (entryFrame m #[(.ref o0), (.int (Int32.ofNat sz))] 6)) t := by
      intro t kt
      refine pre3 t ?_
      show Steps p.tables e below (T2.setTop (mkF m 37 #[.val (.ref o0), .val (.int (Int32.ofNat sz)), .val (.int (1 : Int32)), .val (.long (Int64.ofNat sz)), .second, .unset] [(.int (lcmpW (Int64.ofNat sz) (64 : Int64)))])) _
      refine XS.ifNo X2.here hx rfl (hb hby d1_37) rfl ((if0 _ _).trans (tlt hc4).2.2.2) ?_
      show Steps p.tables e below (T2.setTop (mkF m 40 #[.val (.ref o0), .val (.int (Int32.ofNat sz)), .val (.int (1 : Int32)), .val (.long (Int64.ofNat sz)), .second, .unset] [])) _
      refine XS.iinc X2.here hx rfl (hb hby d1_40) rfl (l' := #[.val (.ref o0), .val (.int (Int32.ofNat sz)), .val (.int ((1 : Int32) + (1 : Int32))), .val (.long (Int64.ofNat sz)), .second, .unset]) rfl ?_
      show Steps p.tables e below (T2.setTop (mkF m 43 #[.val (.ref o0), .val (.int (Int32.ofNat sz)), .val (.int ((1 : Int32) + (1 : Int32))), .val (.long (Int64.ofNat sz)), .second, .unset] [])) _
      refine XS.lloadN X2.here hx rfl (hb hby d1_43) rfl ?_
      show Steps p.tables e below (T2.setTop (mkF m 44 #[.val (.ref o0), .val (.int (Int32.ofNat sz)), .val (.int ((1 : Int32) + (1 : Int32))), .val (.long (Int64.ofNat sz)), .second, .unset] [(.long (Int64.ofNat sz))])) _
      refine st5 _ ?_
      show Steps p.tables e below (T5.setTop (mkF m 47 #[.val (.ref o0), .val (.int (Int32.ofNat sz)), .val (.int ((1 : Int32) + (1 : Int32))), .val (.long (Int64.ofNat sz)), .second, .unset] [(.long (Int64.ofNat ((sz + 63) / 64)))])) _
      refine XS.lstoreN X5.here hx rfl (hb hby d1_47) rfl (l' := #[.val (.ref o0), .val (.int (Int32.ofNat sz)), .val (.int ((1 : Int32) + (1 : Int32))), .val (.long (Int64.ofNat ((sz + 63) / 64))), .second, .unset]) rfl ?_
      show Steps p.tables e below (T5.setTop (mkF m 48 #[.val (.ref o0), .val (.int (Int32.ofNat sz)), .val (.int ((1 : Int32) + (1 : Int32))), .val (.long (Int64.ofNat ((sz + 63) / 64))), .second, .unset] [])) _
      refine XS.goto X5.here hx rfl (pc0 := 48) (pc' := 32) rfl (hb hby d1_48) (by decide) (by decide) ?_
      show Steps p.tables e below (T5.setTop (mkF m 32 #[.val (.ref o0), .val (.int (Int32.ofNat sz)), .val (.int ((1 : Int32) + (1 : Int32))), .val (.long (Int64.ofNat ((sz + 63) / 64))), .second, .unset] [])) _
      refine XS.lloadN X5.here hx rfl (hb hby d1_32) rfl ?_
      show Steps p.tables e below (T5.setTop (mkF m 33 #[.val (.ref o0), .val (.int (Int32.ofNat sz)), .val (.int ((1 : Int32) + (1 : Int32))), .val (.long (Int64.ofNat ((sz + 63) / 64))), .second, .unset] [(.long (Int64.ofNat ((sz + 63) / 64)))])) _
      refine X5.ldc2Long hx hown (mvT hZ (hw _ (List.mem_of_getElem? (i := 12) rfl))) (g := (mkF m 33 #[.val (.ref o0), .val (.int (Int32.ofNat sz)), .val (.int ((1 : Int32) + (1 : Int32))), .val (.long (Int64.ofNat ((sz + 63) / 64))), .second, .unset] [(.long (Int64.ofNat ((sz + 63) / 64)))])) rfl (hb hby d1_33) _ ?_
      show Steps p.tables e below (T5.setTop (mkF m 36 #[.val (.ref o0), .val (.int (Int32.ofNat sz)), .val (.int ((1 : Int32) + (1 : Int32))), .val (.long (Int64.ofNat ((sz + 63) / 64))), .second, .unset] [(.long (64 : Int64)), (.long (Int64.ofNat ((sz + 63) / 64)))])) _
      refine XS.lcmp X5.here hx rfl (hb hby d1_36) rfl ?_
      exact kt
    by_cases hc7 : (0 : Int32) < (lcmpW (Int64.ofNat ((sz + 63) / 64)) (64 : Int64))
    · skip
      have hc7' : 64 < ((sz + 63) / 64) := (own_lc64 (by omega)).mp hc7
      obtain ⟨_, _, ⟨T8, L8, k8, n8⟩, -, X8, ⟨Lc8, hQ8, l8, y8, z8⟩, st8⟩ := Jvm.LawKit.callS X5 hx (y := (⟨"com/example/halfword/halfword/verify/RoundRobinSet", "words", "(J)J"⟩ : MethodName)) hown (mvT hZ (hw _ (List.mem_of_getElem? (i := 17) rfl))) (mvT hZ (hw _ (List.mem_of_getElem? (i := 18) rfl))) (mvT hZ (hw _ (List.mem_of_getElem? (i := 3) rfl))) (mvT hZ (hw _ (List.mem_of_getElem? (i := 19) rfl))) (by decide) (backOf (W := 0) (rWo l Z a0 hw [] ((sz + 63) / 64) (by omega) h2 n0 Zs2) hZ (hw _ (List.mem_of_getElem? (i := 19) rfl)) (hw _ (List.mem_of_getElem? (i := 3) rfl)) (by decide) (by decide)) (g := (mkF m 44 #[.val (.ref o0), .val (.int (Int32.ofNat sz)), .val (.int (((1 : Int32) + (1 : Int32)) + (1 : Int32))), .val (.long (Int64.ofNat ((sz + 63) / 64))), .second, .unset] [(.long (Int64.ofNat ((sz + 63) / 64)))])) rfl (by rw [hml]; rfl) (argsL := [(.long (Int64.ofNat ((sz + 63) / 64)))]) (rest := []) (lenOf pd__J_J rfl) rfl (by show 2 * 0 + _ ≤ _; exact Nat.le_of_eq rfl) (hb hby d1_44) (fun _ _ => ⟨rfl, e5, (by decide : 0 + 0 ≤ _), (by decide : 0 + 0 ≤ _)⟩)
      dsimp only [Pt.U, Pt.locs, Pt.cells, Pt.slots] at X8 l8 y8 z8 st8 hQ8
      rw [l8, y8, z8] at X8
      obtain ⟨rfl, N8q, e8⟩ := hQ8
      have N8 := Fr.app N5 N8q
      have pre9 : ∀ t, Steps p.tables e below (T8.setTop (mkF m 37 #[.val (.ref o0), .val (.int (Int32.ofNat sz)), .val (.int (((1 : Int32) + (1 : Int32)) + (1 : Int32))), .val (.long (Int64.ofNat ((((sz + 63) / 64) + 63) / 64))), .second, .unset] [(.int (lcmpW (Int64.ofNat ((((sz + 63) / 64) + 63) / 64)) (64 : Int64)))])) t → Steps p.tables e below (s₁.setTop (entryFrame m #[(.ref o0), (.int (Int32.ofNat sz))] 6)) t := by
        intro t kt
        refine pre6 t ?_
        show Steps p.tables e below (T5.setTop (mkF m 37 #[.val (.ref o0), .val (.int (Int32.ofNat sz)), .val (.int ((1 : Int32) + (1 : Int32))), .val (.long (Int64.ofNat ((sz + 63) / 64))), .second, .unset] [(.int (lcmpW (Int64.ofNat ((sz + 63) / 64)) (64 : Int64)))])) _
        refine XS.ifNo X5.here hx rfl (hb hby d1_37) rfl ((if0 _ _).trans (tlt hc7).2.2.2) ?_
        show Steps p.tables e below (T5.setTop (mkF m 40 #[.val (.ref o0), .val (.int (Int32.ofNat sz)), .val (.int ((1 : Int32) + (1 : Int32))), .val (.long (Int64.ofNat ((sz + 63) / 64))), .second, .unset] [])) _
        refine XS.iinc X5.here hx rfl (hb hby d1_40) rfl (l' := #[.val (.ref o0), .val (.int (Int32.ofNat sz)), .val (.int (((1 : Int32) + (1 : Int32)) + (1 : Int32))), .val (.long (Int64.ofNat ((sz + 63) / 64))), .second, .unset]) rfl ?_
        show Steps p.tables e below (T5.setTop (mkF m 43 #[.val (.ref o0), .val (.int (Int32.ofNat sz)), .val (.int (((1 : Int32) + (1 : Int32)) + (1 : Int32))), .val (.long (Int64.ofNat ((sz + 63) / 64))), .second, .unset] [])) _
        refine XS.lloadN X5.here hx rfl (hb hby d1_43) rfl ?_
        show Steps p.tables e below (T5.setTop (mkF m 44 #[.val (.ref o0), .val (.int (Int32.ofNat sz)), .val (.int (((1 : Int32) + (1 : Int32)) + (1 : Int32))), .val (.long (Int64.ofNat ((sz + 63) / 64))), .second, .unset] [(.long (Int64.ofNat ((sz + 63) / 64)))])) _
        refine st8 _ ?_
        show Steps p.tables e below (T8.setTop (mkF m 47 #[.val (.ref o0), .val (.int (Int32.ofNat sz)), .val (.int (((1 : Int32) + (1 : Int32)) + (1 : Int32))), .val (.long (Int64.ofNat ((sz + 63) / 64))), .second, .unset] [(.long (Int64.ofNat ((((sz + 63) / 64) + 63) / 64)))])) _
        refine XS.lstoreN X8.here hx rfl (hb hby d1_47) rfl (l' := #[.val (.ref o0), .val (.int (Int32.ofNat sz)), .val (.int (((1 : Int32) + (1 : Int32)) + (1 : Int32))), .val (.long (Int64.ofNat ((((sz + 63) / 64) + 63) / 64))), .second, .unset]) rfl ?_
        show Steps p.tables e below (T8.setTop (mkF m 48 #[.val (.ref o0), .val (.int (Int32.ofNat sz)), .val (.int (((1 : Int32) + (1 : Int32)) + (1 : Int32))), .val (.long (Int64.ofNat ((((sz + 63) / 64) + 63) / 64))), .second, .unset] [])) _
        refine XS.goto X8.here hx rfl (pc0 := 48) (pc' := 32) rfl (hb hby d1_48) (by decide) (by decide) ?_
        show Steps p.tables e below (T8.setTop (mkF m 32 #[.val (.ref o0), .val (.int (Int32.ofNat sz)), .val (.int (((1 : Int32) + (1 : Int32)) + (1 : Int32))), .val (.long (Int64.ofNat ((((sz + 63) / 64) + 63) / 64))), .second, .unset] [])) _
        refine XS.lloadN X8.here hx rfl (hb hby d1_32) rfl ?_
        show Steps p.tables e below (T8.setTop (mkF m 33 #[.val (.ref o0), .val (.int (Int32.ofNat sz)), .val (.int (((1 : Int32) + (1 : Int32)) + (1 : Int32))), .val (.long (Int64.ofNat ((((sz + 63) / 64) + 63) / 64))), .second, .unset] [(.long (Int64.ofNat ((((sz + 63) / 64) + 63) / 64)))])) _
        refine X8.ldc2Long hx hown (mvT hZ (hw _ (List.mem_of_getElem? (i := 12) rfl))) (g := (mkF m 33 #[.val (.ref o0), .val (.int (Int32.ofNat sz)), .val (.int (((1 : Int32) + (1 : Int32)) + (1 : Int32))), .val (.long (Int64.ofNat ((((sz + 63) / 64) + 63) / 64))), .second, .unset] [(.long (Int64.ofNat ((((sz + 63) / 64) + 63) / 64)))])) rfl (hb hby d1_33) _ ?_
        show Steps p.tables e below (T8.setTop (mkF m 36 #[.val (.ref o0), .val (.int (Int32.ofNat sz)), .val (.int (((1 : Int32) + (1 : Int32)) + (1 : Int32))), .val (.long (Int64.ofNat ((((sz + 63) / 64) + 63) / 64))), .second, .unset] [(.long (64 : Int64)), (.long (Int64.ofNat ((((sz + 63) / 64) + 63) / 64)))])) _
        refine XS.lcmp X8.here hx rfl (hb hby d1_36) rfl ?_
        exact kt
      by_cases hc10 : (0 : Int32) < (lcmpW (Int64.ofNat ((((sz + 63) / 64) + 63) / 64)) (64 : Int64))
      · skip
        have hc10' : 64 < ((((sz + 63) / 64) + 63) / 64) := (own_lc64 (by omega)).mp hc10
        obtain ⟨_, _, ⟨T11, L11, k11, n11⟩, -, X11, ⟨Lc11, hQ11, l11, y11, z11⟩, st11⟩ := Jvm.LawKit.callS X8 hx (y := (⟨"com/example/halfword/halfword/verify/RoundRobinSet", "words", "(J)J"⟩ : MethodName)) hown (mvT hZ (hw _ (List.mem_of_getElem? (i := 17) rfl))) (mvT hZ (hw _ (List.mem_of_getElem? (i := 18) rfl))) (mvT hZ (hw _ (List.mem_of_getElem? (i := 3) rfl))) (mvT hZ (hw _ (List.mem_of_getElem? (i := 19) rfl))) (by decide) (backOf (W := 0) (rWo l Z a0 hw [] ((((sz + 63) / 64) + 63) / 64) (by omega) h2 n0 Zs2) hZ (hw _ (List.mem_of_getElem? (i := 19) rfl)) (hw _ (List.mem_of_getElem? (i := 3) rfl)) (by decide) (by decide)) (g := (mkF m 44 #[.val (.ref o0), .val (.int (Int32.ofNat sz)), .val (.int ((((1 : Int32) + (1 : Int32)) + (1 : Int32)) + (1 : Int32))), .val (.long (Int64.ofNat ((((sz + 63) / 64) + 63) / 64))), .second, .unset] [(.long (Int64.ofNat ((((sz + 63) / 64) + 63) / 64)))])) rfl (by rw [hml]; rfl) (argsL := [(.long (Int64.ofNat ((((sz + 63) / 64) + 63) / 64)))]) (rest := []) (lenOf pd__J_J rfl) rfl (by show 2 * 0 + _ ≤ _; exact Nat.le_of_eq rfl) (hb hby d1_44) (fun _ _ => ⟨rfl, e8, (by decide : 0 + 0 ≤ _), (by decide : 0 + 0 ≤ _)⟩)
        dsimp only [Pt.U, Pt.locs, Pt.cells, Pt.slots] at X11 l11 y11 z11 st11 hQ11
        rw [l11, y11, z11] at X11
        obtain ⟨rfl, N11q, e11⟩ := hQ11
        have N11 := Fr.app N8 N11q
        have htop : cN sz 4 = 1 := own_top4 hsz hc4' hc7' hc10'
        obtain ⟨T12, h12, k12, X12, e12, E12, A12, Eb12, OV12, st12⟩ := newRA (C := "[J") (ty := .long) X11 hx hZ hown (by decide) (hw _ (List.mem_of_getElem? (i := 13) rfl)) (hw _ (List.mem_of_getElem? (i := 14) rfl)) e11 (g := (mkF m 53 #[.val (.ref o0), .val (.int (Int32.ofNat sz)), .val (.int (Int32.ofNat 4)), .val (.long (Int64.ofNat ((((((sz + 63) / 64) + 63) / 64) + 63) / 64))), .second, .unset] [(.int (Int32.ofNat 4)), (.ref o0)])) rfl (hb hby d1_53) rfl (by decide) (cap := 4) (by decide) (by decide) (by decide) (by decide) (ad := "[[J") (by decide)
        obtain ⟨b12, g12⟩ : ∃ z, z = h2.size := ⟨_, rfl⟩
        rw [← g12] at A12 Eb12 st12
        have g_b12 : n0 ≤ b12 := Nat.le_trans Zs2 (Nat.le_of_eq g12.symm)
        have E_o_13 := (E_o.wr W2)
        have ne12_o0 : o0 ≠ b12 := Nat.ne_of_lt (Nat.lt_of_lt_of_le (E_o_13).lt (Nat.le_of_eq g12.symm))
        have Zs12 : n0 ≤ h12.size := Nat.le_trans Zs2 E12.1
        have G12 : GA Z h12 b12 k12 (.array .long) 4 (fun _ => .null) := GA.new A12 rfl
        have F_l_14 := ((F_l.other W2 (Or.inr (slot_ne (Or.inr (hw _ (List.mem_of_getElem? (i := 16) rfl))) (Or.inr (hw _ (List.mem_of_getElem? (i := 11) rfl))) (by decide) (t := (.array (.array .long))) (t' := .int) (by decide) (by decide)))).ext E12)
        have E_o_15 := (E_o_13.ext E12)
        obtain ⟨T16, h16, X16, e16, W16, st16⟩ := putF X12 hx hZ hown (host := "") (Or.inl (hw _ (List.mem_of_getElem? (i := 15) rfl))) Via.refl e12 F_l_14 E_o_15 (Or.inr ⟨(hw _ (List.mem_of_getElem? (i := 16) rfl)), rfl, hnm⟩) (hw _ (List.mem_of_getElem? (i := 2) rfl)) (ty := (.array (.array .long))) (by decide) rfl rfl (g := (mkF m 56 #[.val (.ref o0), .val (.int (Int32.ofNat sz)), .val (.int (Int32.ofNat 4)), .val (.long (Int64.ofNat ((((((sz + 63) / 64) + 63) / 64) + 63) / 64))), .second, .unset] [(.ref b12), (.ref o0)])) rfl rfl (hb hby d1_56)
        have Fw16 := F_l_14.same W16
        have Zs16 : n0 ≤ h16.size := Nat.le_trans Zs12 (Nat.le_of_eq W16.size.symm)
        have N16 := Fr.snoc X16 N11 g_o
        have pre17 : ∀ t, Steps p.tables e below (T16.setTop (mkF m 65 #[.val (.ref o0), .val (.int (Int32.ofNat sz)), .val (.int (Int32.ofNat 4)), .val (.long (Int64.ofNat sz)), .second, .val (.int (0 : Int32))] [])) t → Steps p.tables e below (s₁.setTop (entryFrame m #[(.ref o0), (.int (Int32.ofNat sz))] 6)) t := by
          intro t kt
          refine pre9 t ?_
          show Steps p.tables e below (T8.setTop (mkF m 37 #[.val (.ref o0), .val (.int (Int32.ofNat sz)), .val (.int (((1 : Int32) + (1 : Int32)) + (1 : Int32))), .val (.long (Int64.ofNat ((((sz + 63) / 64) + 63) / 64))), .second, .unset] [(.int (lcmpW (Int64.ofNat ((((sz + 63) / 64) + 63) / 64)) (64 : Int64)))])) _
          refine XS.ifNo X8.here hx rfl (hb hby d1_37) rfl ((if0 _ _).trans (tlt hc10).2.2.2) ?_
          show Steps p.tables e below (T8.setTop (mkF m 40 #[.val (.ref o0), .val (.int (Int32.ofNat sz)), .val (.int (((1 : Int32) + (1 : Int32)) + (1 : Int32))), .val (.long (Int64.ofNat ((((sz + 63) / 64) + 63) / 64))), .second, .unset] [])) _
          refine XS.iinc X8.here hx rfl (hb hby d1_40) rfl (l' := #[.val (.ref o0), .val (.int (Int32.ofNat sz)), .val (.int ((((1 : Int32) + (1 : Int32)) + (1 : Int32)) + (1 : Int32))), .val (.long (Int64.ofNat ((((sz + 63) / 64) + 63) / 64))), .second, .unset]) rfl ?_
          show Steps p.tables e below (T8.setTop (mkF m 43 #[.val (.ref o0), .val (.int (Int32.ofNat sz)), .val (.int ((((1 : Int32) + (1 : Int32)) + (1 : Int32)) + (1 : Int32))), .val (.long (Int64.ofNat ((((sz + 63) / 64) + 63) / 64))), .second, .unset] [])) _
          refine XS.lloadN X8.here hx rfl (hb hby d1_43) rfl ?_
          show Steps p.tables e below (T8.setTop (mkF m 44 #[.val (.ref o0), .val (.int (Int32.ofNat sz)), .val (.int ((((1 : Int32) + (1 : Int32)) + (1 : Int32)) + (1 : Int32))), .val (.long (Int64.ofNat ((((sz + 63) / 64) + 63) / 64))), .second, .unset] [(.long (Int64.ofNat ((((sz + 63) / 64) + 63) / 64)))])) _
          refine st11 _ ?_
          show Steps p.tables e below (T11.setTop (mkF m 47 #[.val (.ref o0), .val (.int (Int32.ofNat sz)), .val (.int ((((1 : Int32) + (1 : Int32)) + (1 : Int32)) + (1 : Int32))), .val (.long (Int64.ofNat ((((sz + 63) / 64) + 63) / 64))), .second, .unset] [(.long (Int64.ofNat ((((((sz + 63) / 64) + 63) / 64) + 63) / 64)))])) _
          refine XS.lstoreN X11.here hx rfl (hb hby d1_47) rfl (l' := #[.val (.ref o0), .val (.int (Int32.ofNat sz)), .val (.int ((((1 : Int32) + (1 : Int32)) + (1 : Int32)) + (1 : Int32))), .val (.long (Int64.ofNat ((((((sz + 63) / 64) + 63) / 64) + 63) / 64))), .second, .unset]) rfl ?_
          show Steps p.tables e below (T11.setTop (mkF m 48 #[.val (.ref o0), .val (.int (Int32.ofNat sz)), .val (.int ((((1 : Int32) + (1 : Int32)) + (1 : Int32)) + (1 : Int32))), .val (.long (Int64.ofNat ((((((sz + 63) / 64) + 63) / 64) + 63) / 64))), .second, .unset] [])) _
          refine XS.goto X11.here hx rfl (pc0 := 48) (pc' := 32) rfl (hb hby d1_48) (by decide) (by decide) ?_
          show Steps p.tables e below (T11.setTop (mkF m 32 #[.val (.ref o0), .val (.int (Int32.ofNat sz)), .val (.int ((((1 : Int32) + (1 : Int32)) + (1 : Int32)) + (1 : Int32))), .val (.long (Int64.ofNat ((((((sz + 63) / 64) + 63) / 64) + 63) / 64))), .second, .unset] [])) _
          refine XS.lloadN X11.here hx rfl (hb hby d1_32) rfl ?_
          show Steps p.tables e below (T11.setTop (mkF m 33 #[.val (.ref o0), .val (.int (Int32.ofNat sz)), .val (.int ((((1 : Int32) + (1 : Int32)) + (1 : Int32)) + (1 : Int32))), .val (.long (Int64.ofNat ((((((sz + 63) / 64) + 63) / 64) + 63) / 64))), .second, .unset] [(.long (Int64.ofNat ((((((sz + 63) / 64) + 63) / 64) + 63) / 64)))])) _
          refine X11.ldc2Long hx hown (mvT hZ (hw _ (List.mem_of_getElem? (i := 12) rfl))) (g := (mkF m 33 #[.val (.ref o0), .val (.int (Int32.ofNat sz)), .val (.int ((((1 : Int32) + (1 : Int32)) + (1 : Int32)) + (1 : Int32))), .val (.long (Int64.ofNat ((((((sz + 63) / 64) + 63) / 64) + 63) / 64))), .second, .unset] [(.long (Int64.ofNat ((((((sz + 63) / 64) + 63) / 64) + 63) / 64)))])) rfl (hb hby d1_33) _ ?_
          show Steps p.tables e below (T11.setTop (mkF m 36 #[.val (.ref o0), .val (.int (Int32.ofNat sz)), .val (.int ((((1 : Int32) + (1 : Int32)) + (1 : Int32)) + (1 : Int32))), .val (.long (Int64.ofNat ((((((sz + 63) / 64) + 63) / 64) + 63) / 64))), .second, .unset] [(.long (64 : Int64)), (.long (Int64.ofNat ((((((sz + 63) / 64) + 63) / 64) + 63) / 64)))])) _
          refine XS.lcmp X11.here hx rfl (hb hby d1_36) rfl ?_
          show Steps p.tables e below (T11.setTop (mkF m 37 #[.val (.ref o0), .val (.int (Int32.ofNat sz)), .val (.int ((((1 : Int32) + (1 : Int32)) + (1 : Int32)) + (1 : Int32))), .val (.long (Int64.ofNat ((((((sz + 63) / 64) + 63) / 64) + 63) / 64))), .second, .unset] [(.int (lcmpW (Int64.ofNat ((((((sz + 63) / 64) + 63) / 64) + 63) / 64)) (64 : Int64)))])) _
          refine XS.ifYes X11.here hx rfl (pc0 := 37) (pc' := 51) rfl (hb hby d1_37) rfl ((if0 _ _).trans (flt (fun q => by have := (own_lc64 (x := ((((((sz + 63) / 64) + 63) / 64) + 63) / 64)) (by omega)).mp q; omega)).2.2.2) (by decide) (by decide) ?_
          show Steps p.tables e below (T11.setTop (mkF m 51 #[.val (.ref o0), .val (.int (Int32.ofNat sz)), .val (.int ((((1 : Int32) + (1 : Int32)) + (1 : Int32)) + (1 : Int32))), .val (.long (Int64.ofNat ((((((sz + 63) / 64) + 63) / 64) + 63) / 64))), .second, .unset] [])) _
          rw [show ((((1 : Int32) + (1 : Int32)) + (1 : Int32)) + (1 : Int32)) = Int32.ofNat 4 from rfl]
          show Steps p.tables e below (T11.setTop (mkF m 51 #[.val (.ref o0), .val (.int (Int32.ofNat sz)), .val (.int (Int32.ofNat 4)), .val (.long (Int64.ofNat ((((((sz + 63) / 64) + 63) / 64) + 63) / 64))), .second, .unset] [])) _
          refine XS.aloadN X11.here hx rfl (hb hby d1_51) rfl rfl ?_
          show Steps p.tables e below (T11.setTop (mkF m 52 #[.val (.ref o0), .val (.int (Int32.ofNat sz)), .val (.int (Int32.ofNat 4)), .val (.long (Int64.ofNat ((((((sz + 63) / 64) + 63) / 64) + 63) / 64))), .second, .unset] [(.ref o0)])) _
          refine XS.iloadN X11.here hx rfl (hb hby d1_52) rfl ?_
          show Steps p.tables e below (T11.setTop (mkF m 53 #[.val (.ref o0), .val (.int (Int32.ofNat sz)), .val (.int (Int32.ofNat 4)), .val (.long (Int64.ofNat ((((((sz + 63) / 64) + 63) / 64) + 63) / 64))), .second, .unset] [(.int (Int32.ofNat 4)), (.ref o0)])) _
          refine st12 _ ?_
          show Steps p.tables e below (T12.setTop (mkF m 56 #[.val (.ref o0), .val (.int (Int32.ofNat sz)), .val (.int (Int32.ofNat 4)), .val (.long (Int64.ofNat ((((((sz + 63) / 64) + 63) / 64) + 63) / 64))), .second, .unset] [(.ref b12), (.ref o0)])) _
          refine st16 _ ?_
          show Steps p.tables e below (T16.setTop (mkF m 59 #[.val (.ref o0), .val (.int (Int32.ofNat sz)), .val (.int (Int32.ofNat 4)), .val (.long (Int64.ofNat ((((((sz + 63) / 64) + 63) / 64) + 63) / 64))), .second, .unset] [])) _
          refine XS.iloadN X16.here hx rfl (hb hby d1_59) rfl ?_
          show Steps p.tables e below (T16.setTop (mkF m 60 #[.val (.ref o0), .val (.int (Int32.ofNat sz)), .val (.int (Int32.ofNat 4)), .val (.long (Int64.ofNat ((((((sz + 63) / 64) + 63) / 64) + 63) / 64))), .second, .unset] [(.int (Int32.ofNat sz))])) _
          refine XS.i2l X16.here hx rfl (hb hby d1_60) rfl ?_
          show Steps p.tables e below (T16.setTop (mkF m 61 #[.val (.ref o0), .val (.int (Int32.ofNat sz)), .val (.int (Int32.ofNat 4)), .val (.long (Int64.ofNat ((((((sz + 63) / 64) + 63) / 64) + 63) / 64))), .second, .unset] [(.long ((Int32.ofNat sz).toInt64))])) _
          rw [own_i2l (i := sz) (by omega)]
          show Steps p.tables e below (T16.setTop (mkF m 61 #[.val (.ref o0), .val (.int (Int32.ofNat sz)), .val (.int (Int32.ofNat 4)), .val (.long (Int64.ofNat ((((((sz + 63) / 64) + 63) / 64) + 63) / 64))), .second, .unset] [(.long (Int64.ofNat sz))])) _
          refine XS.lstoreN X16.here hx rfl (hb hby d1_61) rfl (l' := #[.val (.ref o0), .val (.int (Int32.ofNat sz)), .val (.int (Int32.ofNat 4)), .val (.long (Int64.ofNat sz)), .second, .unset]) rfl ?_
          show Steps p.tables e below (T16.setTop (mkF m 62 #[.val (.ref o0), .val (.int (Int32.ofNat sz)), .val (.int (Int32.ofNat 4)), .val (.long (Int64.ofNat sz)), .second, .unset] [])) _
          refine XS.iconst X16.here hx rfl (hb hby d1_62) ?_
          show Steps p.tables e below (T16.setTop (mkF m 63 #[.val (.ref o0), .val (.int (Int32.ofNat sz)), .val (.int (Int32.ofNat 4)), .val (.long (Int64.ofNat sz)), .second, .unset] [(.int (0 : Int32))])) _
          refine XS.istore X16.here hx rfl (hb hby d1_63) rfl (l' := #[.val (.ref o0), .val (.int (Int32.ofNat sz)), .val (.int (Int32.ofNat 4)), .val (.long (Int64.ofNat sz)), .second, .val (.int (0 : Int32))]) rfl ?_
          exact kt
        have E_o_19 := (E_o_15.wr W16)
        have Fw2_20 := ((Fw2.ext E12).other W16 (Or.inr (slot_ne (Or.inr (hw _ (List.mem_of_getElem? (i := 11) rfl))) (Or.inr (hw _ (List.mem_of_getElem? (i := 16) rfl))) (by decide) (t := .int) (t' := (.array (.array .long))) (by decide) (by decide))))
        have F_a_21 := (((F_a.other W2 (Or.inr (slot_ne (Or.inl (hw _ (List.mem_of_getElem? (i := 51) rfl))) (Or.inr (hw _ (List.mem_of_getElem? (i := 11) rfl))) (by decide) (t := .long) (t' := .int) (by decide) (by decide)))).ext E12).other W16 (Or.inr (slot_ne (Or.inl (hw _ (List.mem_of_getElem? (i := 51) rfl))) (Or.inr (hw _ (List.mem_of_getElem? (i := 16) rfl))) (by decide) (t := .long) (t' := (.array (.array .long))) (by decide) (by decide))))
        have G12_22 := (G12.other W16 (Ne.symm ne12_o0))
        have nb : b12 ≠ o0 := Ne.symm ne12_o0
        obtain ⟨T18, L18, vs', xs', ks', Ls, X18, N18, Kp, ⟨I1, I2, I3, I4, I5⟩, st18⟩ := iniL n0 o0 b12 k12 4 sz hx hZ hw hby hml hown OV12 (by decide) hsz nb g_b12 4 0 T16 _ _ _ (fun _ => .null) (fun _ => 0) (fun _ => 0) (by decide) X16 (by decide) (by decide) (by rw [e16]; exact Fw16) (by rw [e16]; exact (E_o_19).lt) (by rw [e16]; exact Zs16) N16 ⟨by rw [e16]; exact G12_22, fun j hj => absurd hj (Nat.not_lt_zero _), fun j hj => absurd hj (Nat.not_lt_zero _), fun j hj => absurd hj (Nat.not_lt_zero _), fun i j hi => absurd hi (Nat.not_lt_zero _)⟩
        rw [e16] at Kp
        obtain ⟨fs, hr, hrun, hended, hW, hsame⟩ := X18.leave (v := none) (fun _ => rfl)
        refine ⟨_, _, pre17 _ (st18 _ ?_), hrun, hended, _, _, rfl, ?_, ⟨_, rfl⟩, hW, hsame.mono (by decide) (by decide)⟩
        · exact X18.returnOut hx Bd.returns (by rw [hby]; exact d1_105) hr
        · refine ⟨rfl, N18, b12, k12, 4, xs', ks', fun j => cN sz (j + 1), fun _ _ => 0, ⟨(E_o_19).keep Kp, (Fw16).keep Kp (ninS nb.symm nin0), (Fw2_20).keep Kp (ninS nb.symm nin0), (F_a_21).keep Kp (ninS nb.symm nin0), I1.eqv (fun j hj => I2 j hj), I3, g_o, fun j hj => (I4 j hj).1, fun j hj => (I4 j hj).2.1, fun j hj => (I4 j hj).2.2, I5, nb⟩, own_shp hsz (by decide) (by decide) htop, fun j hj kk hk b hb => ⟨fun q => absurd q ((own_bit_zero 0).mp rfl b hb), fun q => by obtain ⟨e, he, -⟩ := q; exact he.elim⟩, fun e he => he.elim, Nat.zero_le _⟩
      · skip
        have hc10' : ¬ 64 < ((((sz + 63) / 64) + 63) / 64) := fun q => hc10 ((own_lc64 (by omega)).mpr q)
        have htop : cN sz 3 = 1 := own_top3 hc4' hc7' hc10'
        obtain ⟨T23, h23, k23, X23, e23, E23, A23, Eb23, OV23, st23⟩ := newRA (C := "[J") (ty := .long) X8 hx hZ hown (by decide) (hw _ (List.mem_of_getElem? (i := 13) rfl)) (hw _ (List.mem_of_getElem? (i := 14) rfl)) e8 (g := (mkF m 53 #[.val (.ref o0), .val (.int (Int32.ofNat sz)), .val (.int (Int32.ofNat 3)), .val (.long (Int64.ofNat ((((sz + 63) / 64) + 63) / 64))), .second, .unset] [(.int (Int32.ofNat 3)), (.ref o0)])) rfl (hb hby d1_53) rfl (by decide) (cap := 4) (by decide) (by decide) (by decide) (by decide) (ad := "[[J") (by decide)
        obtain ⟨b23, g23⟩ : ∃ z, z = h2.size := ⟨_, rfl⟩
        rw [← g23] at A23 Eb23 st23
        have g_b23 : n0 ≤ b23 := Nat.le_trans Zs2 (Nat.le_of_eq g23.symm)
        have E_o_24 := (E_o.wr W2)
        have ne23_o0 : o0 ≠ b23 := Nat.ne_of_lt (Nat.lt_of_lt_of_le (E_o_24).lt (Nat.le_of_eq g23.symm))
        have Zs23 : n0 ≤ h23.size := Nat.le_trans Zs2 E23.1
        have G23 : GA Z h23 b23 k23 (.array .long) 3 (fun _ => .null) := GA.new A23 rfl
        have F_l_25 := ((F_l.other W2 (Or.inr (slot_ne (Or.inr (hw _ (List.mem_of_getElem? (i := 16) rfl))) (Or.inr (hw _ (List.mem_of_getElem? (i := 11) rfl))) (by decide) (t := (.array (.array .long))) (t' := .int) (by decide) (by decide)))).ext E23)
        have E_o_26 := (E_o_24.ext E23)
        obtain ⟨T27, h27, X27, e27, W27, st27⟩ := putF X23 hx hZ hown (host := "") (Or.inl (hw _ (List.mem_of_getElem? (i := 15) rfl))) Via.refl e23 F_l_25 E_o_26 (Or.inr ⟨(hw _ (List.mem_of_getElem? (i := 16) rfl)), rfl, hnm⟩) (hw _ (List.mem_of_getElem? (i := 2) rfl)) (ty := (.array (.array .long))) (by decide) rfl rfl (g := (mkF m 56 #[.val (.ref o0), .val (.int (Int32.ofNat sz)), .val (.int (Int32.ofNat 3)), .val (.long (Int64.ofNat ((((sz + 63) / 64) + 63) / 64))), .second, .unset] [(.ref b23), (.ref o0)])) rfl rfl (hb hby d1_56)
        have Fw27 := F_l_25.same W27
        have Zs27 : n0 ≤ h27.size := Nat.le_trans Zs23 (Nat.le_of_eq W27.size.symm)
        have N27 := Fr.snoc X27 N8 g_o
        have pre28 : ∀ t, Steps p.tables e below (T27.setTop (mkF m 65 #[.val (.ref o0), .val (.int (Int32.ofNat sz)), .val (.int (Int32.ofNat 3)), .val (.long (Int64.ofNat sz)), .second, .val (.int (0 : Int32))] [])) t → Steps p.tables e below (s₁.setTop (entryFrame m #[(.ref o0), (.int (Int32.ofNat sz))] 6)) t := by
          intro t kt
          refine pre9 t ?_
          show Steps p.tables e below (T8.setTop (mkF m 37 #[.val (.ref o0), .val (.int (Int32.ofNat sz)), .val (.int (((1 : Int32) + (1 : Int32)) + (1 : Int32))), .val (.long (Int64.ofNat ((((sz + 63) / 64) + 63) / 64))), .second, .unset] [(.int (lcmpW (Int64.ofNat ((((sz + 63) / 64) + 63) / 64)) (64 : Int64)))])) _
          refine XS.ifYes X8.here hx rfl (pc0 := 37) (pc' := 51) rfl (hb hby d1_37) rfl ((if0 _ _).trans (flt hc10).2.2.2) (by decide) (by decide) ?_
          show Steps p.tables e below (T8.setTop (mkF m 51 #[.val (.ref o0), .val (.int (Int32.ofNat sz)), .val (.int (((1 : Int32) + (1 : Int32)) + (1 : Int32))), .val (.long (Int64.ofNat ((((sz + 63) / 64) + 63) / 64))), .second, .unset] [])) _
          rw [show (((1 : Int32) + (1 : Int32)) + (1 : Int32)) = Int32.ofNat 3 from rfl]
          show Steps p.tables e below (T8.setTop (mkF m 51 #[.val (.ref o0), .val (.int (Int32.ofNat sz)), .val (.int (Int32.ofNat 3)), .val (.long (Int64.ofNat ((((sz + 63) / 64) + 63) / 64))), .second, .unset] [])) _
          refine XS.aloadN X8.here hx rfl (hb hby d1_51) rfl rfl ?_
          show Steps p.tables e below (T8.setTop (mkF m 52 #[.val (.ref o0), .val (.int (Int32.ofNat sz)), .val (.int (Int32.ofNat 3)), .val (.long (Int64.ofNat ((((sz + 63) / 64) + 63) / 64))), .second, .unset] [(.ref o0)])) _
          refine XS.iloadN X8.here hx rfl (hb hby d1_52) rfl ?_
          show Steps p.tables e below (T8.setTop (mkF m 53 #[.val (.ref o0), .val (.int (Int32.ofNat sz)), .val (.int (Int32.ofNat 3)), .val (.long (Int64.ofNat ((((sz + 63) / 64) + 63) / 64))), .second, .unset] [(.int (Int32.ofNat 3)), (.ref o0)])) _
          refine st23 _ ?_
          show Steps p.tables e below (T23.setTop (mkF m 56 #[.val (.ref o0), .val (.int (Int32.ofNat sz)), .val (.int (Int32.ofNat 3)), .val (.long (Int64.ofNat ((((sz + 63) / 64) + 63) / 64))), .second, .unset] [(.ref b23), (.ref o0)])) _
          refine st27 _ ?_
          show Steps p.tables e below (T27.setTop (mkF m 59 #[.val (.ref o0), .val (.int (Int32.ofNat sz)), .val (.int (Int32.ofNat 3)), .val (.long (Int64.ofNat ((((sz + 63) / 64) + 63) / 64))), .second, .unset] [])) _
          refine XS.iloadN X27.here hx rfl (hb hby d1_59) rfl ?_
          show Steps p.tables e below (T27.setTop (mkF m 60 #[.val (.ref o0), .val (.int (Int32.ofNat sz)), .val (.int (Int32.ofNat 3)), .val (.long (Int64.ofNat ((((sz + 63) / 64) + 63) / 64))), .second, .unset] [(.int (Int32.ofNat sz))])) _
          refine XS.i2l X27.here hx rfl (hb hby d1_60) rfl ?_
          show Steps p.tables e below (T27.setTop (mkF m 61 #[.val (.ref o0), .val (.int (Int32.ofNat sz)), .val (.int (Int32.ofNat 3)), .val (.long (Int64.ofNat ((((sz + 63) / 64) + 63) / 64))), .second, .unset] [(.long ((Int32.ofNat sz).toInt64))])) _
          rw [own_i2l (i := sz) (by omega)]
          show Steps p.tables e below (T27.setTop (mkF m 61 #[.val (.ref o0), .val (.int (Int32.ofNat sz)), .val (.int (Int32.ofNat 3)), .val (.long (Int64.ofNat ((((sz + 63) / 64) + 63) / 64))), .second, .unset] [(.long (Int64.ofNat sz))])) _
          refine XS.lstoreN X27.here hx rfl (hb hby d1_61) rfl (l' := #[.val (.ref o0), .val (.int (Int32.ofNat sz)), .val (.int (Int32.ofNat 3)), .val (.long (Int64.ofNat sz)), .second, .unset]) rfl ?_
          show Steps p.tables e below (T27.setTop (mkF m 62 #[.val (.ref o0), .val (.int (Int32.ofNat sz)), .val (.int (Int32.ofNat 3)), .val (.long (Int64.ofNat sz)), .second, .unset] [])) _
          refine XS.iconst X27.here hx rfl (hb hby d1_62) ?_
          show Steps p.tables e below (T27.setTop (mkF m 63 #[.val (.ref o0), .val (.int (Int32.ofNat sz)), .val (.int (Int32.ofNat 3)), .val (.long (Int64.ofNat sz)), .second, .unset] [(.int (0 : Int32))])) _
          refine XS.istore X27.here hx rfl (hb hby d1_63) rfl (l' := #[.val (.ref o0), .val (.int (Int32.ofNat sz)), .val (.int (Int32.ofNat 3)), .val (.long (Int64.ofNat sz)), .second, .val (.int (0 : Int32))]) rfl ?_
          exact kt
        have E_o_30 := (E_o_26.wr W27)
        have Fw2_31 := ((Fw2.ext E23).other W27 (Or.inr (slot_ne (Or.inr (hw _ (List.mem_of_getElem? (i := 11) rfl))) (Or.inr (hw _ (List.mem_of_getElem? (i := 16) rfl))) (by decide) (t := .int) (t' := (.array (.array .long))) (by decide) (by decide))))
        have F_a_32 := (((F_a.other W2 (Or.inr (slot_ne (Or.inl (hw _ (List.mem_of_getElem? (i := 51) rfl))) (Or.inr (hw _ (List.mem_of_getElem? (i := 11) rfl))) (by decide) (t := .long) (t' := .int) (by decide) (by decide)))).ext E23).other W27 (Or.inr (slot_ne (Or.inl (hw _ (List.mem_of_getElem? (i := 51) rfl))) (Or.inr (hw _ (List.mem_of_getElem? (i := 16) rfl))) (by decide) (t := .long) (t' := (.array (.array .long))) (by decide) (by decide))))
        have G23_33 := (G23.other W27 (Ne.symm ne23_o0))
        have nb : b23 ≠ o0 := Ne.symm ne23_o0
        obtain ⟨T29, L29, vs', xs', ks', Ls, X29, N29, Kp, ⟨I1, I2, I3, I4, I5⟩, st29⟩ := iniL n0 o0 b23 k23 3 sz hx hZ hw hby hml hown OV23 (by decide) hsz nb g_b23 3 0 T27 _ _ _ (fun _ => .null) (fun _ => 0) (fun _ => 0) (by decide) X27 (by decide) (by decide) (by rw [e27]; exact Fw27) (by rw [e27]; exact (E_o_30).lt) (by rw [e27]; exact Zs27) N27 ⟨by rw [e27]; exact G23_33, fun j hj => absurd hj (Nat.not_lt_zero _), fun j hj => absurd hj (Nat.not_lt_zero _), fun j hj => absurd hj (Nat.not_lt_zero _), fun i j hi => absurd hi (Nat.not_lt_zero _)⟩
        rw [e27] at Kp
        obtain ⟨fs, hr, hrun, hended, hW, hsame⟩ := X29.leave (v := none) (fun _ => rfl)
        refine ⟨_, _, pre28 _ (st29 _ ?_), hrun, hended, _, _, rfl, ?_, ⟨_, rfl⟩, hW, hsame.mono (by decide) (by decide)⟩
        · exact X29.returnOut hx Bd.returns (by rw [hby]; exact d1_105) hr
        · refine ⟨rfl, N29, b23, k23, 3, xs', ks', fun j => cN sz (j + 1), fun _ _ => 0, ⟨(E_o_30).keep Kp, (Fw27).keep Kp (ninS nb.symm nin0), (Fw2_31).keep Kp (ninS nb.symm nin0), (F_a_32).keep Kp (ninS nb.symm nin0), I1.eqv (fun j hj => I2 j hj), I3, g_o, fun j hj => (I4 j hj).1, fun j hj => (I4 j hj).2.1, fun j hj => (I4 j hj).2.2, I5, nb⟩, own_shp hsz (by decide) (by decide) htop, fun j hj kk hk b hb => ⟨fun q => absurd q ((own_bit_zero 0).mp rfl b hb), fun q => by obtain ⟨e, he, -⟩ := q; exact he.elim⟩, fun e he => he.elim, Nat.zero_le _⟩
    · skip
      have hc7' : ¬ 64 < ((sz + 63) / 64) := fun q => hc7 ((own_lc64 (by omega)).mpr q)
      have htop : cN sz 2 = 1 := own_top2 hc4' hc7'
      obtain ⟨T34, h34, k34, X34, e34, E34, A34, Eb34, OV34, st34⟩ := newRA (C := "[J") (ty := .long) X5 hx hZ hown (by decide) (hw _ (List.mem_of_getElem? (i := 13) rfl)) (hw _ (List.mem_of_getElem? (i := 14) rfl)) e5 (g := (mkF m 53 #[.val (.ref o0), .val (.int (Int32.ofNat sz)), .val (.int (Int32.ofNat 2)), .val (.long (Int64.ofNat ((sz + 63) / 64))), .second, .unset] [(.int (Int32.ofNat 2)), (.ref o0)])) rfl (hb hby d1_53) rfl (by decide) (cap := 4) (by decide) (by decide) (by decide) (by decide) (ad := "[[J") (by decide)
      obtain ⟨b34, g34⟩ : ∃ z, z = h2.size := ⟨_, rfl⟩
      rw [← g34] at A34 Eb34 st34
      have g_b34 : n0 ≤ b34 := Nat.le_trans Zs2 (Nat.le_of_eq g34.symm)
      have E_o_35 := (E_o.wr W2)
      have ne34_o0 : o0 ≠ b34 := Nat.ne_of_lt (Nat.lt_of_lt_of_le (E_o_35).lt (Nat.le_of_eq g34.symm))
      have Zs34 : n0 ≤ h34.size := Nat.le_trans Zs2 E34.1
      have G34 : GA Z h34 b34 k34 (.array .long) 2 (fun _ => .null) := GA.new A34 rfl
      have F_l_36 := ((F_l.other W2 (Or.inr (slot_ne (Or.inr (hw _ (List.mem_of_getElem? (i := 16) rfl))) (Or.inr (hw _ (List.mem_of_getElem? (i := 11) rfl))) (by decide) (t := (.array (.array .long))) (t' := .int) (by decide) (by decide)))).ext E34)
      have E_o_37 := (E_o_35.ext E34)
      obtain ⟨T38, h38, X38, e38, W38, st38⟩ := putF X34 hx hZ hown (host := "") (Or.inl (hw _ (List.mem_of_getElem? (i := 15) rfl))) Via.refl e34 F_l_36 E_o_37 (Or.inr ⟨(hw _ (List.mem_of_getElem? (i := 16) rfl)), rfl, hnm⟩) (hw _ (List.mem_of_getElem? (i := 2) rfl)) (ty := (.array (.array .long))) (by decide) rfl rfl (g := (mkF m 56 #[.val (.ref o0), .val (.int (Int32.ofNat sz)), .val (.int (Int32.ofNat 2)), .val (.long (Int64.ofNat ((sz + 63) / 64))), .second, .unset] [(.ref b34), (.ref o0)])) rfl rfl (hb hby d1_56)
      have Fw38 := F_l_36.same W38
      have Zs38 : n0 ≤ h38.size := Nat.le_trans Zs34 (Nat.le_of_eq W38.size.symm)
      have N38 := Fr.snoc X38 N5 g_o
      have pre39 : ∀ t, Steps p.tables e below (T38.setTop (mkF m 65 #[.val (.ref o0), .val (.int (Int32.ofNat sz)), .val (.int (Int32.ofNat 2)), .val (.long (Int64.ofNat sz)), .second, .val (.int (0 : Int32))] [])) t → Steps p.tables e below (s₁.setTop (entryFrame m #[(.ref o0), (.int (Int32.ofNat sz))] 6)) t := by
        intro t kt
        refine pre6 t ?_
        show Steps p.tables e below (T5.setTop (mkF m 37 #[.val (.ref o0), .val (.int (Int32.ofNat sz)), .val (.int ((1 : Int32) + (1 : Int32))), .val (.long (Int64.ofNat ((sz + 63) / 64))), .second, .unset] [(.int (lcmpW (Int64.ofNat ((sz + 63) / 64)) (64 : Int64)))])) _
        refine XS.ifYes X5.here hx rfl (pc0 := 37) (pc' := 51) rfl (hb hby d1_37) rfl ((if0 _ _).trans (flt hc7).2.2.2) (by decide) (by decide) ?_
        show Steps p.tables e below (T5.setTop (mkF m 51 #[.val (.ref o0), .val (.int (Int32.ofNat sz)), .val (.int ((1 : Int32) + (1 : Int32))), .val (.long (Int64.ofNat ((sz + 63) / 64))), .second, .unset] [])) _
        rw [show ((1 : Int32) + (1 : Int32)) = Int32.ofNat 2 from rfl]
        show Steps p.tables e below (T5.setTop (mkF m 51 #[.val (.ref o0), .val (.int (Int32.ofNat sz)), .val (.int (Int32.ofNat 2)), .val (.long (Int64.ofNat ((sz + 63) / 64))), .second, .unset] [])) _
        refine XS.aloadN X5.here hx rfl (hb hby d1_51) rfl rfl ?_
        show Steps p.tables e below (T5.setTop (mkF m 52 #[.val (.ref o0), .val (.int (Int32.ofNat sz)), .val (.int (Int32.ofNat 2)), .val (.long (Int64.ofNat ((sz + 63) / 64))), .second, .unset] [(.ref o0)])) _
        refine XS.iloadN X5.here hx rfl (hb hby d1_52) rfl ?_
        show Steps p.tables e below (T5.setTop (mkF m 53 #[.val (.ref o0), .val (.int (Int32.ofNat sz)), .val (.int (Int32.ofNat 2)), .val (.long (Int64.ofNat ((sz + 63) / 64))), .second, .unset] [(.int (Int32.ofNat 2)), (.ref o0)])) _
        refine st34 _ ?_
        show Steps p.tables e below (T34.setTop (mkF m 56 #[.val (.ref o0), .val (.int (Int32.ofNat sz)), .val (.int (Int32.ofNat 2)), .val (.long (Int64.ofNat ((sz + 63) / 64))), .second, .unset] [(.ref b34), (.ref o0)])) _
        refine st38 _ ?_
        show Steps p.tables e below (T38.setTop (mkF m 59 #[.val (.ref o0), .val (.int (Int32.ofNat sz)), .val (.int (Int32.ofNat 2)), .val (.long (Int64.ofNat ((sz + 63) / 64))), .second, .unset] [])) _
        refine XS.iloadN X38.here hx rfl (hb hby d1_59) rfl ?_
        show Steps p.tables e below (T38.setTop (mkF m 60 #[.val (.ref o0), .val (.int (Int32.ofNat sz)), .val (.int (Int32.ofNat 2)), .val (.long (Int64.ofNat ((sz + 63) / 64))), .second, .unset] [(.int (Int32.ofNat sz))])) _
        refine XS.i2l X38.here hx rfl (hb hby d1_60) rfl ?_
        show Steps p.tables e below (T38.setTop (mkF m 61 #[.val (.ref o0), .val (.int (Int32.ofNat sz)), .val (.int (Int32.ofNat 2)), .val (.long (Int64.ofNat ((sz + 63) / 64))), .second, .unset] [(.long ((Int32.ofNat sz).toInt64))])) _
        rw [own_i2l (i := sz) (by omega)]
        show Steps p.tables e below (T38.setTop (mkF m 61 #[.val (.ref o0), .val (.int (Int32.ofNat sz)), .val (.int (Int32.ofNat 2)), .val (.long (Int64.ofNat ((sz + 63) / 64))), .second, .unset] [(.long (Int64.ofNat sz))])) _
        refine XS.lstoreN X38.here hx rfl (hb hby d1_61) rfl (l' := #[.val (.ref o0), .val (.int (Int32.ofNat sz)), .val (.int (Int32.ofNat 2)), .val (.long (Int64.ofNat sz)), .second, .unset]) rfl ?_
        show Steps p.tables e below (T38.setTop (mkF m 62 #[.val (.ref o0), .val (.int (Int32.ofNat sz)), .val (.int (Int32.ofNat 2)), .val (.long (Int64.ofNat sz)), .second, .unset] [])) _
        refine XS.iconst X38.here hx rfl (hb hby d1_62) ?_
        show Steps p.tables e below (T38.setTop (mkF m 63 #[.val (.ref o0), .val (.int (Int32.ofNat sz)), .val (.int (Int32.ofNat 2)), .val (.long (Int64.ofNat sz)), .second, .unset] [(.int (0 : Int32))])) _
        refine XS.istore X38.here hx rfl (hb hby d1_63) rfl (l' := #[.val (.ref o0), .val (.int (Int32.ofNat sz)), .val (.int (Int32.ofNat 2)), .val (.long (Int64.ofNat sz)), .second, .val (.int (0 : Int32))]) rfl ?_
        exact kt
      have E_o_41 := (E_o_37.wr W38)
      have Fw2_42 := ((Fw2.ext E34).other W38 (Or.inr (slot_ne (Or.inr (hw _ (List.mem_of_getElem? (i := 11) rfl))) (Or.inr (hw _ (List.mem_of_getElem? (i := 16) rfl))) (by decide) (t := .int) (t' := (.array (.array .long))) (by decide) (by decide))))
      have F_a_43 := (((F_a.other W2 (Or.inr (slot_ne (Or.inl (hw _ (List.mem_of_getElem? (i := 51) rfl))) (Or.inr (hw _ (List.mem_of_getElem? (i := 11) rfl))) (by decide) (t := .long) (t' := .int) (by decide) (by decide)))).ext E34).other W38 (Or.inr (slot_ne (Or.inl (hw _ (List.mem_of_getElem? (i := 51) rfl))) (Or.inr (hw _ (List.mem_of_getElem? (i := 16) rfl))) (by decide) (t := .long) (t' := (.array (.array .long))) (by decide) (by decide))))
      have G34_44 := (G34.other W38 (Ne.symm ne34_o0))
      have nb : b34 ≠ o0 := Ne.symm ne34_o0
      obtain ⟨T40, L40, vs', xs', ks', Ls, X40, N40, Kp, ⟨I1, I2, I3, I4, I5⟩, st40⟩ := iniL n0 o0 b34 k34 2 sz hx hZ hw hby hml hown OV34 (by decide) hsz nb g_b34 2 0 T38 _ _ _ (fun _ => .null) (fun _ => 0) (fun _ => 0) (by decide) X38 (by decide) (by decide) (by rw [e38]; exact Fw38) (by rw [e38]; exact (E_o_41).lt) (by rw [e38]; exact Zs38) N38 ⟨by rw [e38]; exact G34_44, fun j hj => absurd hj (Nat.not_lt_zero _), fun j hj => absurd hj (Nat.not_lt_zero _), fun j hj => absurd hj (Nat.not_lt_zero _), fun i j hi => absurd hi (Nat.not_lt_zero _)⟩
      rw [e38] at Kp
      obtain ⟨fs, hr, hrun, hended, hW, hsame⟩ := X40.leave (v := none) (fun _ => rfl)
      refine ⟨_, _, pre39 _ (st40 _ ?_), hrun, hended, _, _, rfl, ?_, ⟨_, rfl⟩, hW, hsame.mono (by decide) (by decide)⟩
      · exact X40.returnOut hx Bd.returns (by rw [hby]; exact d1_105) hr
      · refine ⟨rfl, N40, b34, k34, 2, xs', ks', fun j => cN sz (j + 1), fun _ _ => 0, ⟨(E_o_41).keep Kp, (Fw38).keep Kp (ninS nb.symm nin0), (Fw2_42).keep Kp (ninS nb.symm nin0), (F_a_43).keep Kp (ninS nb.symm nin0), I1.eqv (fun j hj => I2 j hj), I3, g_o, fun j hj => (I4 j hj).1, fun j hj => (I4 j hj).2.1, fun j hj => (I4 j hj).2.2, I5, nb⟩, own_shp hsz (by decide) (by decide) htop, fun j hj kk hk b hb => ⟨fun q => absurd q ((own_bit_zero 0).mp rfl b hb), fun q => by obtain ⟨e, he, -⟩ := q; exact he.elim⟩, fun e he => he.elim, Nat.zero_le _⟩
  · skip
    have hc4' : ¬ 64 < sz := fun q => hc4 ((own_lc64 (by omega)).mpr q)
    have htop : cN sz 1 = 1 := own_top1 hc4'
    obtain ⟨T45, h45, k45, X45, e45, E45, A45, Eb45, OV45, st45⟩ := newRA (C := "[J") (ty := .long) X2 hx hZ hown (by decide) (hw _ (List.mem_of_getElem? (i := 13) rfl)) (hw _ (List.mem_of_getElem? (i := 14) rfl)) e2 (g := (mkF m 53 #[.val (.ref o0), .val (.int (Int32.ofNat sz)), .val (.int (Int32.ofNat 1)), .val (.long (Int64.ofNat sz)), .second, .unset] [(.int (Int32.ofNat 1)), (.ref o0)])) rfl (hb hby d1_53) rfl (by decide) (cap := 4) (by decide) (by decide) (by decide) (by decide) (ad := "[[J") (by decide)
    obtain ⟨b45, g45⟩ : ∃ z, z = h2.size := ⟨_, rfl⟩
    rw [← g45] at A45 Eb45 st45
    have g_b45 : n0 ≤ b45 := Nat.le_trans Zs2 (Nat.le_of_eq g45.symm)
    have E_o_46 := (E_o.wr W2)
    have ne45_o0 : o0 ≠ b45 := Nat.ne_of_lt (Nat.lt_of_lt_of_le (E_o_46).lt (Nat.le_of_eq g45.symm))
    have Zs45 : n0 ≤ h45.size := Nat.le_trans Zs2 E45.1
    have G45 : GA Z h45 b45 k45 (.array .long) 1 (fun _ => .null) := GA.new A45 rfl
    have F_l_47 := ((F_l.other W2 (Or.inr (slot_ne (Or.inr (hw _ (List.mem_of_getElem? (i := 16) rfl))) (Or.inr (hw _ (List.mem_of_getElem? (i := 11) rfl))) (by decide) (t := (.array (.array .long))) (t' := .int) (by decide) (by decide)))).ext E45)
    have E_o_48 := (E_o_46.ext E45)
    obtain ⟨T49, h49, X49, e49, W49, st49⟩ := putF X45 hx hZ hown (host := "") (Or.inl (hw _ (List.mem_of_getElem? (i := 15) rfl))) Via.refl e45 F_l_47 E_o_48 (Or.inr ⟨(hw _ (List.mem_of_getElem? (i := 16) rfl)), rfl, hnm⟩) (hw _ (List.mem_of_getElem? (i := 2) rfl)) (ty := (.array (.array .long))) (by decide) rfl rfl (g := (mkF m 56 #[.val (.ref o0), .val (.int (Int32.ofNat sz)), .val (.int (Int32.ofNat 1)), .val (.long (Int64.ofNat sz)), .second, .unset] [(.ref b45), (.ref o0)])) rfl rfl (hb hby d1_56)
    have Fw49 := F_l_47.same W49
    have Zs49 : n0 ≤ h49.size := Nat.le_trans Zs45 (Nat.le_of_eq W49.size.symm)
    have N49 := Fr.snoc X49 N2 g_o
    have pre50 : ∀ t, Steps p.tables e below (T49.setTop (mkF m 65 #[.val (.ref o0), .val (.int (Int32.ofNat sz)), .val (.int (Int32.ofNat 1)), .val (.long (Int64.ofNat sz)), .second, .val (.int (0 : Int32))] [])) t → Steps p.tables e below (s₁.setTop (entryFrame m #[(.ref o0), (.int (Int32.ofNat sz))] 6)) t := by
      intro t kt
      refine pre3 t ?_
      show Steps p.tables e below (T2.setTop (mkF m 37 #[.val (.ref o0), .val (.int (Int32.ofNat sz)), .val (.int (1 : Int32)), .val (.long (Int64.ofNat sz)), .second, .unset] [(.int (lcmpW (Int64.ofNat sz) (64 : Int64)))])) _
      refine XS.ifYes X2.here hx rfl (pc0 := 37) (pc' := 51) rfl (hb hby d1_37) rfl ((if0 _ _).trans (flt hc4).2.2.2) (by decide) (by decide) ?_
      show Steps p.tables e below (T2.setTop (mkF m 51 #[.val (.ref o0), .val (.int (Int32.ofNat sz)), .val (.int (1 : Int32)), .val (.long (Int64.ofNat sz)), .second, .unset] [])) _
      rw [show (1 : Int32) = Int32.ofNat 1 from rfl]
      show Steps p.tables e below (T2.setTop (mkF m 51 #[.val (.ref o0), .val (.int (Int32.ofNat sz)), .val (.int (Int32.ofNat 1)), .val (.long (Int64.ofNat sz)), .second, .unset] [])) _
      refine XS.aloadN X2.here hx rfl (hb hby d1_51) rfl rfl ?_
      show Steps p.tables e below (T2.setTop (mkF m 52 #[.val (.ref o0), .val (.int (Int32.ofNat sz)), .val (.int (Int32.ofNat 1)), .val (.long (Int64.ofNat sz)), .second, .unset] [(.ref o0)])) _
      refine XS.iloadN X2.here hx rfl (hb hby d1_52) rfl ?_
      show Steps p.tables e below (T2.setTop (mkF m 53 #[.val (.ref o0), .val (.int (Int32.ofNat sz)), .val (.int (Int32.ofNat 1)), .val (.long (Int64.ofNat sz)), .second, .unset] [(.int (Int32.ofNat 1)), (.ref o0)])) _
      refine st45 _ ?_
      show Steps p.tables e below (T45.setTop (mkF m 56 #[.val (.ref o0), .val (.int (Int32.ofNat sz)), .val (.int (Int32.ofNat 1)), .val (.long (Int64.ofNat sz)), .second, .unset] [(.ref b45), (.ref o0)])) _
      refine st49 _ ?_
      show Steps p.tables e below (T49.setTop (mkF m 59 #[.val (.ref o0), .val (.int (Int32.ofNat sz)), .val (.int (Int32.ofNat 1)), .val (.long (Int64.ofNat sz)), .second, .unset] [])) _
      refine XS.iloadN X49.here hx rfl (hb hby d1_59) rfl ?_
      show Steps p.tables e below (T49.setTop (mkF m 60 #[.val (.ref o0), .val (.int (Int32.ofNat sz)), .val (.int (Int32.ofNat 1)), .val (.long (Int64.ofNat sz)), .second, .unset] [(.int (Int32.ofNat sz))])) _
      refine XS.i2l X49.here hx rfl (hb hby d1_60) rfl ?_
      show Steps p.tables e below (T49.setTop (mkF m 61 #[.val (.ref o0), .val (.int (Int32.ofNat sz)), .val (.int (Int32.ofNat 1)), .val (.long (Int64.ofNat sz)), .second, .unset] [(.long ((Int32.ofNat sz).toInt64))])) _
      rw [own_i2l (i := sz) (by omega)]
      show Steps p.tables e below (T49.setTop (mkF m 61 #[.val (.ref o0), .val (.int (Int32.ofNat sz)), .val (.int (Int32.ofNat 1)), .val (.long (Int64.ofNat sz)), .second, .unset] [(.long (Int64.ofNat sz))])) _
      refine XS.lstoreN X49.here hx rfl (hb hby d1_61) rfl (l' := #[.val (.ref o0), .val (.int (Int32.ofNat sz)), .val (.int (Int32.ofNat 1)), .val (.long (Int64.ofNat sz)), .second, .unset]) rfl ?_
      show Steps p.tables e below (T49.setTop (mkF m 62 #[.val (.ref o0), .val (.int (Int32.ofNat sz)), .val (.int (Int32.ofNat 1)), .val (.long (Int64.ofNat sz)), .second, .unset] [])) _
      refine XS.iconst X49.here hx rfl (hb hby d1_62) ?_
      show Steps p.tables e below (T49.setTop (mkF m 63 #[.val (.ref o0), .val (.int (Int32.ofNat sz)), .val (.int (Int32.ofNat 1)), .val (.long (Int64.ofNat sz)), .second, .unset] [(.int (0 : Int32))])) _
      refine XS.istore X49.here hx rfl (hb hby d1_63) rfl (l' := #[.val (.ref o0), .val (.int (Int32.ofNat sz)), .val (.int (Int32.ofNat 1)), .val (.long (Int64.ofNat sz)), .second, .val (.int (0 : Int32))]) rfl ?_
      exact kt
    have E_o_52 := (E_o_48.wr W49)
    have Fw2_53 := ((Fw2.ext E45).other W49 (Or.inr (slot_ne (Or.inr (hw _ (List.mem_of_getElem? (i := 11) rfl))) (Or.inr (hw _ (List.mem_of_getElem? (i := 16) rfl))) (by decide) (t := .int) (t' := (.array (.array .long))) (by decide) (by decide))))
    have F_a_54 := (((F_a.other W2 (Or.inr (slot_ne (Or.inl (hw _ (List.mem_of_getElem? (i := 51) rfl))) (Or.inr (hw _ (List.mem_of_getElem? (i := 11) rfl))) (by decide) (t := .long) (t' := .int) (by decide) (by decide)))).ext E45).other W49 (Or.inr (slot_ne (Or.inl (hw _ (List.mem_of_getElem? (i := 51) rfl))) (Or.inr (hw _ (List.mem_of_getElem? (i := 16) rfl))) (by decide) (t := .long) (t' := (.array (.array .long))) (by decide) (by decide))))
    have G45_55 := (G45.other W49 (Ne.symm ne45_o0))
    have nb : b45 ≠ o0 := Ne.symm ne45_o0
    obtain ⟨T51, L51, vs', xs', ks', Ls, X51, N51, Kp, ⟨I1, I2, I3, I4, I5⟩, st51⟩ := iniL n0 o0 b45 k45 1 sz hx hZ hw hby hml hown OV45 (by decide) hsz nb g_b45 1 0 T49 _ _ _ (fun _ => .null) (fun _ => 0) (fun _ => 0) (by decide) X49 (by decide) (by decide) (by rw [e49]; exact Fw49) (by rw [e49]; exact (E_o_52).lt) (by rw [e49]; exact Zs49) N49 ⟨by rw [e49]; exact G45_55, fun j hj => absurd hj (Nat.not_lt_zero _), fun j hj => absurd hj (Nat.not_lt_zero _), fun j hj => absurd hj (Nat.not_lt_zero _), fun i j hi => absurd hi (Nat.not_lt_zero _)⟩
    rw [e49] at Kp
    obtain ⟨fs, hr, hrun, hended, hW, hsame⟩ := X51.leave (v := none) (fun _ => rfl)
    refine ⟨_, _, pre50 _ (st51 _ ?_), hrun, hended, _, _, rfl, ?_, ⟨_, rfl⟩, hW, hsame.mono (by decide) (by decide)⟩
    · exact X51.returnOut hx Bd.returns (by rw [hby]; exact d1_105) hr
    · refine ⟨rfl, N51, b45, k45, 1, xs', ks', fun j => cN sz (j + 1), fun _ _ => 0, ⟨(E_o_52).keep Kp, (Fw49).keep Kp (ninS nb.symm nin0), (Fw2_53).keep Kp (ninS nb.symm nin0), (F_a_54).keep Kp (ninS nb.symm nin0), I1.eqv (fun j hj => I2 j hj), I3, g_o, fun j hj => (I4 j hj).1, fun j hj => (I4 j hj).2.1, fun j hj => (I4 j hj).2.2, I5, nb⟩, own_shp hsz (by decide) (by decide) htop, fun j hj kk hk b hb => ⟨fun q => absurd q ((own_bit_zero 0).mp rfl b hb), fun q => by obtain ⟨e, he, -⟩ := q; exact he.elim⟩, fun e he => he.elim, Nat.zero_le _⟩
theorem pd__I_V : parseMethodDescriptor "(I)V" = some ⟨[.int], none⟩ := by decide +kernel
theorem pd___Z : parseMethodDescriptor "()Z" = some ⟨[], some .boolean⟩ := by decide +kernel
theorem pd___I : parseMethodDescriptor "()I" = some ⟨[], some .int⟩ := by decide +kernel
theorem pn_0 : plainName "com/example/halfword/halfword/verify/RoundRobinSetIsEmptyPinLaw" = true := by first | (simp [plainName, overriddenIn]; done) | decide +kernel
theorem ef_rm0 (m : MethodId) (x0 : Int32) (x1 : Int32) (x2 : Int32) (x3 : Int32) : entryFrame m #[(.int x0), (.int x1), (.int x2), (.int x3)] maxLocals = mkF m 0 #[.val (.int x0), .val (.int x1), .val (.int x2), .val (.int x3), .unset, .unset, .unset, .unset, .unset, .unset, .unset] [] := by first | (simp [entryFrame, mkF, argsToLocals, Value.category, maxLocals]; done) | rfl
set_option maxRecDepth 65536 in
set_option maxHeartbeats 40000000 in
theorem rm0 (l : Launch) (Z : State) (a0 : Array Value) (hw : ∀ d ∈ tables_1, d.before a0 Z = true) (ws : List Jvm.Cond) (p0 : Int32) (p1 : Int32) (p2 : Int32) (p3 : Int32) (sz : Nat) (hsz : sz ≤ 1048575) (hp : (p0 &&& (1048575 : Int32)) = Int32.ofNat sz) (h0 : Heap) (n0 : Nat) (Z0 : n0 ≤ h0.size) :
    MetFree l x (head1 (Jvm.Cond.code x code maxLocals ret :: ws) room_1) (fun a U => a = #[(.int p0), (.int p1), (.int p2), (.int p3)] ∧ Z.Warmed39 U.vm ∧ U.heap = h0) (fun _ _ _ _ _ => True) (fun _ U o U' => ∃ v L, o = .returned v ∧ QL n0 v U'.heap L ∧ FrameEnd U o U' L room_1.cells room_1.slots) := by
  refine MetFree.of_bodySF (plainFor_of_name pn_0) hisR ?_
  intro p e s m args below meth c s₁ Bd hml0 hP hK
  obtain ⟨rfl, hZ, hh⟩ := hP
  have hx := Bd.exec
  have hby := Bd.bytes
  have hml : c.maxLocals = 11 := hml0
  have hown : s.vm.findClass "com/example/halfword/halfword/verify/RoundRobinSetIsEmptyPinLaw" = some m.cls := findClass_of_methodNamed Bd.named
  have hnm := (name_of_methodNamed Bd.named Bd.method).1
  have X0 : Stand p l e room_1 s m #[(.int p0), (.int p1), (.int p2), (.int p3)] below meth c s₁ [] 0 0 := Stand.of_body Bd
  have e0 : s₁.heap = h0 := by rw [← hh, Bd.state]; rfl
  have N0 := Fr.nil n0
  have pre0 : ∀ t, Steps p.tables e below (s₁.setTop (mkF m 0 #[.val (.int p0), .val (.int p1), .val (.int p2), .val (.int p3), .unset, .unset, .unset, .unset, .unset, .unset, .unset] [])) t → Steps p.tables e below (s₁.setTop (entryFrame m #[(.int p0), (.int p1), (.int p2), (.int p3)] maxLocals)) t := fun t k => castTop (ef_rm0 m p0 p1 p2 p3) k
  obtain ⟨T1, h1, X1, e1, E1, A1, D1, U1, st1⟩ := newO X0 hx hZ hown (hw _ (List.mem_of_getElem? (i := 1) rfl)) (hw _ (List.mem_of_getElem? (i := 2) rfl)) (hw _ (List.mem_of_getElem? (i := 3) rfl)) e0 (g := (mkF m 6 #[.val (.int p0), .val (.int p1), .val (.int p2), .val (.int p3), .val (.int (Int32.ofNat sz)), .unset, .unset, .unset, .unset, .unset, .unset] [])) rfl (hb hby at_6) (by decide) (by decide)
  obtain ⟨b1, g1⟩ : ∃ z, z = h0.size := ⟨_, rfl⟩
  rw [← g1] at A1 D1 U1 st1
  have g_b1 : n0 ≤ b1 := Nat.le_trans Z0 (Nat.le_of_eq g1.symm)
  have Zs1 : n0 ≤ h1.size := Nat.le_trans Z0 E1.1
  have F1_size : Fld Z h1 b1 "com/example/halfword/halfword/verify/RoundRobinSet" "size" "I" (.int (0 : Int32)) := D1 (Or.inr (hw _ (List.mem_of_getElem? (i := 11) rfl))) (ty := .int) (by decide)
  have F1_levels : Fld Z h1 b1 "com/example/halfword/halfword/verify/RoundRobinSet" "levels" "[[J" .null := D1 (Or.inr (hw _ (List.mem_of_getElem? (i := 16) rfl))) (ty := (.array (.array .long))) (by decide)
  have F1_after : Fld Z h1 b1 "com/example/halfword/halfword/verify/RoundRobinSet" "after" "J" (.long (0 : Int64)) := D1 (Or.inl (hw _ (List.mem_of_getElem? (i := 51) rfl))) (ty := .long) (by decide)
  obtain ⟨_, _, ⟨T2, L2, k2, n2⟩, -, X2, ⟨Lc2, hQ2, l2, y2, z2⟩, st2⟩ := X1.specialBack hx (y := (⟨"com/example/halfword/halfword/verify/RoundRobinSet", "<init>", "(I)V"⟩ : MethodName)) rfl hown (mvT hZ (hw _ (List.mem_of_getElem? (i := 4) rfl))) (mvT hZ (hw _ (List.mem_of_getElem? (i := 5) rfl))) (mvT hZ (hw _ (List.mem_of_getElem? (i := 6) rfl))) (by decide) (backOf (W := 1) (rIn l Z a0 hw [] b1 sz hsz h1 n0 Zs1 A1 g_b1 F1_size F1_levels F1_after) hZ (hw _ (List.mem_of_getElem? (i := 6) rfl)) (hw _ (List.mem_of_getElem? (i := 3) rfl)) (by decide) (by decide)) (g := (mkF m 12 #[.val (.int p0), .val (.int p1), .val (.int p2), .val (.int p3), .val (.int (Int32.ofNat sz)), .unset, .unset, .unset, .unset, .unset, .unset] [(.int (Int32.ofNat sz)), (.ref b1), (.ref b1)])) rfl (by rw [hml]; rfl) (Steps.refl _) (a := b1) (argsL := [(.int (Int32.ofNat sz))]) (rest := [(.ref b1)]) (lenOf pd__I_V rfl) rfl (by show 2 * 0 + _ ≤ _; exact Nat.le_of_eq rfl) (hb hby at_12) (fun _ _ => ⟨rfl, e1, (by decide : 1 + 5 ≤ _), (by decide : 3 + 17412 ≤ _)⟩)
  dsimp only [Pt.U, Pt.locs, Pt.cells, Pt.slots] at X2 l2 y2 z2 st2 hQ2
  rw [l2, y2, z2] at X2
  obtain ⟨rfl, N2q, Rr2⟩ := hQ2
  have N2 := Fr.app N0 N2q
  have Ex2 := Rr2.ex
  obtain ⟨cq3, kq3, q3a, q3b, q3c⟩ := isOf hZ rfl Ex2
  obtain ⟨_, _, ⟨T3, L3, k3, n3⟩, -, X3, ⟨Lc3, hQ3, l3, y3, z3⟩, st3⟩ := X2.virtualBack hx (y := (⟨"com/example/halfword/halfword/verify/RoundRobinSet", "isEmpty", "()Z"⟩ : MethodName)) (z := (⟨"com/example/halfword/halfword/verify/RoundRobinSet", "isEmpty", "()Z"⟩ : MethodName)) hown (mvT hZ (hw _ (List.mem_of_getElem? (i := 26) rfl))) (mvT hZ (hw _ (List.mem_of_getElem? (i := 27) rfl))) (notFace_of_selects (args := #[]) (mvT hZ (hw _ (List.mem_of_getElem? (i := 29) rfl)))) (mvT hZ (hw _ (List.mem_of_getElem? (i := 29) rfl))) (mvT hZ (hw _ (List.mem_of_getElem? (i := 28) rfl))) (by decide) (backOf (W := 0) (rEm l Z a0 hw [] b1 sz 0 (fun _ => False) (1 : Int32) T2.heap n0 (Rr2.le) Rr2 (Or.inl ⟨rfl, Cnt.zero⟩)) hZ (hw _ (List.mem_of_getElem? (i := 30) rfl)) (hw _ (List.mem_of_getElem? (i := 3) rfl)) (by decide) (by decide)) q3a q3c (g := (mkF m 19 #[.val (.int p0), .val (.int p1), .val (.int p2), .val (.int p3), .val (.int (Int32.ofNat sz)), .val (.ref b1), .unset, .unset, .unset, .unset, .unset] [(.ref b1)])) rfl (by rw [hml]; rfl) (Steps.refl _) (argsL := []) (rest := []) (lenOf pd___Z rfl) rfl (by show 2 * 0 + _ ≤ _; exact Nat.le_of_eq rfl) (hb hby at_19) (fun _ _ => ⟨rfl, rfl, (by decide : 6 + 0 ≤ _), (by decide : 17415 + 0 ≤ _)⟩)
  dsimp only [Pt.U, Pt.locs, Pt.cells, Pt.slots] at X3 l3 y3 z3 st3 hQ3
  rw [l3, y3, z3] at X3
  obtain ⟨rfl, N3q, e3⟩ := hQ3
  have N3 := Fr.app N2 N3q
  have pre4 : ∀ t, Steps p.tables e below (T3.setTop (mkF m 26 #[.val (.int p0), .val (.int p1), .val (.int p2), .val (.int p3), .val (.int (Int32.ofNat sz)), .val (.ref b1), .val (.int (1 : Int32)), .unset, .unset, .unset, .unset] [(.int (Int32.ofNat sz))])) t → Steps p.tables e below (s₁.setTop (entryFrame m #[(.int p0), (.int p1), (.int p2), (.int p3)] maxLocals)) t := by
    intro t kt
    refine pre0 t ?_
    show Steps p.tables e below (s₁.setTop (mkF m 0 #[.val (.int p0), .val (.int p1), .val (.int p2), .val (.int p3), .unset, .unset, .unset, .unset, .unset, .unset, .unset] [])) _
    refine XS.iloadN X0.here hx rfl (hb hby at_0) rfl ?_
    show Steps p.tables e below (s₁.setTop (mkF m 1 #[.val (.int p0), .val (.int p1), .val (.int p2), .val (.int p3), .unset, .unset, .unset, .unset, .unset, .unset, .unset] [(.int p0)])) _
    refine X0.ldcInt hx hown (mvT hZ (hw _ (List.mem_of_getElem? (i := 0) rfl))) (g := (mkF m 1 #[.val (.int p0), .val (.int p1), .val (.int p2), .val (.int p3), .unset, .unset, .unset, .unset, .unset, .unset, .unset] [(.int p0)])) rfl (hb hby at_1) _ ?_
    show Steps p.tables e below (s₁.setTop (mkF m 3 #[.val (.int p0), .val (.int p1), .val (.int p2), .val (.int p3), .unset, .unset, .unset, .unset, .unset, .unset, .unset] [(.int (1048575 : Int32)), (.int p0)])) _
    refine XS.iand X0.here hx rfl (hb hby at_3) rfl ?_
    show Steps p.tables e below (s₁.setTop (mkF m 4 #[.val (.int p0), .val (.int p1), .val (.int p2), .val (.int p3), .unset, .unset, .unset, .unset, .unset, .unset, .unset] [(.int (p0 &&& (1048575 : Int32)))])) _
    refine XS.istore X0.here hx rfl (hb hby at_4) rfl (l' := #[.val (.int p0), .val (.int p1), .val (.int p2), .val (.int p3), .val (.int (p0 &&& (1048575 : Int32))), .unset, .unset, .unset, .unset, .unset, .unset]) rfl ?_
    show Steps p.tables e below (s₁.setTop (mkF m 6 #[.val (.int p0), .val (.int p1), .val (.int p2), .val (.int p3), .val (.int (p0 &&& (1048575 : Int32))), .unset, .unset, .unset, .unset, .unset, .unset] [])) _
    rw [hp]
    show Steps p.tables e below (s₁.setTop (mkF m 6 #[.val (.int p0), .val (.int p1), .val (.int p2), .val (.int p3), .val (.int (Int32.ofNat sz)), .unset, .unset, .unset, .unset, .unset, .unset] [])) _
    refine st1 _ ?_
    show Steps p.tables e below (T1.setTop (mkF m 9 #[.val (.int p0), .val (.int p1), .val (.int p2), .val (.int p3), .val (.int (Int32.ofNat sz)), .unset, .unset, .unset, .unset, .unset, .unset] [(.ref b1)])) _
    refine XS.dup X1.here hx rfl (hb hby at_9) rfl rfl ?_
    show Steps p.tables e below (T1.setTop (mkF m 10 #[.val (.int p0), .val (.int p1), .val (.int p2), .val (.int p3), .val (.int (Int32.ofNat sz)), .unset, .unset, .unset, .unset, .unset, .unset] [(.ref b1), (.ref b1)])) _
    refine XS.iload X1.here hx rfl (hb hby at_10) rfl ?_
    show Steps p.tables e below (T1.setTop (mkF m 12 #[.val (.int p0), .val (.int p1), .val (.int p2), .val (.int p3), .val (.int (Int32.ofNat sz)), .unset, .unset, .unset, .unset, .unset, .unset] [(.int (Int32.ofNat sz)), (.ref b1), (.ref b1)])) _
    refine st2.trans ?_
    show Steps p.tables e below (T2.setTop (mkF m 15 #[.val (.int p0), .val (.int p1), .val (.int p2), .val (.int p3), .val (.int (Int32.ofNat sz)), .unset, .unset, .unset, .unset, .unset, .unset] [(.ref b1)])) _
    refine XS.astore X2.here hx rfl (hb hby at_15) rfl rfl (l' := #[.val (.int p0), .val (.int p1), .val (.int p2), .val (.int p3), .val (.int (Int32.ofNat sz)), .val (.ref b1), .unset, .unset, .unset, .unset, .unset]) rfl ?_
    show Steps p.tables e below (T2.setTop (mkF m 17 #[.val (.int p0), .val (.int p1), .val (.int p2), .val (.int p3), .val (.int (Int32.ofNat sz)), .val (.ref b1), .unset, .unset, .unset, .unset, .unset] [])) _
    refine XS.aload X2.here hx rfl (hb hby at_17) rfl rfl ?_
    show Steps p.tables e below (T2.setTop (mkF m 19 #[.val (.int p0), .val (.int p1), .val (.int p2), .val (.int p3), .val (.int (Int32.ofNat sz)), .val (.ref b1), .unset, .unset, .unset, .unset, .unset] [(.ref b1)])) _
    refine st3.trans ?_
    show Steps p.tables e below (T3.setTop (mkF m 22 #[.val (.int p0), .val (.int p1), .val (.int p2), .val (.int p3), .val (.int (Int32.ofNat sz)), .val (.ref b1), .unset, .unset, .unset, .unset, .unset] [(.int (1 : Int32))])) _
    refine XS.istore X3.here hx rfl (hb hby at_22) rfl (l' := #[.val (.int p0), .val (.int p1), .val (.int p2), .val (.int p3), .val (.int (Int32.ofNat sz)), .val (.ref b1), .val (.int (1 : Int32)), .unset, .unset, .unset, .unset]) rfl ?_
    show Steps p.tables e below (T3.setTop (mkF m 24 #[.val (.int p0), .val (.int p1), .val (.int p2), .val (.int p3), .val (.int (Int32.ofNat sz)), .val (.ref b1), .val (.int (1 : Int32)), .unset, .unset, .unset, .unset] [])) _
    refine XS.iload X3.here hx rfl (hb hby at_24) rfl ?_
    exact kt
  by_cases hc5 : (Int32.ofNat sz) = (0 : Int32)
  · skip
    obtain ⟨fs, hr, hrun, hended, hW, hsame⟩ := X3.leave (v := some (.int (1 : Int32))) (fun h => by rw [Bd.returns] at h; cases h)
    refine ⟨_, _, pre4 _ ?_, hrun, hended, _, _, rfl, ?_, ⟨_, rfl⟩, hW, hsame.mono (by decide) (by decide)⟩
    · skip
      show Steps p.tables e below (T3.setTop (mkF m 26 #[.val (.int p0), .val (.int p1), .val (.int p2), .val (.int p3), .val (.int (Int32.ofNat sz)), .val (.ref b1), .val (.int (1 : Int32)), .unset, .unset, .unset, .unset] [(.int (Int32.ofNat sz))])) _
      refine XS.ifNo X3.here hx rfl (hb hby at_26) rfl ((if0 _ _).trans (teq hc5).2) ?_
      show Steps p.tables e below (T3.setTop (mkF m 29 #[.val (.int p0), .val (.int p1), .val (.int p2), .val (.int p3), .val (.int (Int32.ofNat sz)), .val (.ref b1), .val (.int (1 : Int32)), .unset, .unset, .unset, .unset] [])) _
      refine XS.iload X3.here hx rfl (hb hby at_29) rfl ?_
      show Steps p.tables e below (T3.setTop (mkF m 31 #[.val (.int p0), .val (.int p1), .val (.int p2), .val (.int p3), .val (.int (Int32.ofNat sz)), .val (.ref b1), .val (.int (1 : Int32)), .unset, .unset, .unset, .unset] [(.int (1 : Int32))])) _
      exact retN X3 hx (t := .boolean) Bd.returns (by simp) (hb hby at_31) hr
    · exact ⟨(by first | rfl | simp [hc5]), N3⟩
  · skip
    obtain ⟨i, hi, ei⟩ := own_imod (x := p1) hc5 hsz
    have pre6 : ∀ t, Steps p.tables e below (T3.setTop (mkF m 41 #[.val (.int p0), .val (.int p1), .val (.int p2), .val (.int p3), .val (.int (Int32.ofNat sz)), .val (.ref b1), .val (.int (1 : Int32)), .val (.int (Int32.ofNat i)), .unset, .unset, .unset] [])) t → Steps p.tables e below (s₁.setTop (entryFrame m #[(.int p0), (.int p1), (.int p2), (.int p3)] maxLocals)) t := by
      intro t kt
      refine pre4 t ?_
      show Steps p.tables e below (T3.setTop (mkF m 26 #[.val (.int p0), .val (.int p1), .val (.int p2), .val (.int p3), .val (.int (Int32.ofNat sz)), .val (.ref b1), .val (.int (1 : Int32)), .unset, .unset, .unset, .unset] [(.int (Int32.ofNat sz))])) _
      refine XS.ifYes X3.here hx rfl (pc0 := 26) (pc' := 32) rfl (hb hby at_26) rfl ((if0 _ _).trans (feq hc5).2) (by decide) (by decide) ?_
      show Steps p.tables e below (T3.setTop (mkF m 32 #[.val (.int p0), .val (.int p1), .val (.int p2), .val (.int p3), .val (.int (Int32.ofNat sz)), .val (.ref b1), .val (.int (1 : Int32)), .unset, .unset, .unset, .unset] [])) _
      refine XS.iloadN X3.here hx rfl (hb hby at_32) rfl ?_
      show Steps p.tables e below (T3.setTop (mkF m 33 #[.val (.int p0), .val (.int p1), .val (.int p2), .val (.int p3), .val (.int (Int32.ofNat sz)), .val (.ref b1), .val (.int (1 : Int32)), .unset, .unset, .unset, .unset] [(.int p1)])) _
      refine X3.ldcInt hx hown (mvT hZ (hw _ (List.mem_of_getElem? (i := 31) rfl))) (g := (mkF m 33 #[.val (.int p0), .val (.int p1), .val (.int p2), .val (.int p3), .val (.int (Int32.ofNat sz)), .val (.ref b1), .val (.int (1 : Int32)), .unset, .unset, .unset, .unset] [(.int p1)])) rfl (hb hby at_33) _ ?_
      show Steps p.tables e below (T3.setTop (mkF m 35 #[.val (.int p0), .val (.int p1), .val (.int p2), .val (.int p3), .val (.int (Int32.ofNat sz)), .val (.ref b1), .val (.int (1 : Int32)), .unset, .unset, .unset, .unset] [(.int (2147483647 : Int32)), (.int p1)])) _
      refine XS.iand X3.here hx rfl (hb hby at_35) rfl ?_
      show Steps p.tables e below (T3.setTop (mkF m 36 #[.val (.int p0), .val (.int p1), .val (.int p2), .val (.int p3), .val (.int (Int32.ofNat sz)), .val (.ref b1), .val (.int (1 : Int32)), .unset, .unset, .unset, .unset] [(.int (p1 &&& (2147483647 : Int32)))])) _
      refine XS.iload X3.here hx rfl (hb hby at_36) rfl ?_
      show Steps p.tables e below (T3.setTop (mkF m 38 #[.val (.int p0), .val (.int p1), .val (.int p2), .val (.int p3), .val (.int (Int32.ofNat sz)), .val (.ref b1), .val (.int (1 : Int32)), .unset, .unset, .unset, .unset] [(.int (Int32.ofNat sz)), (.int (p1 &&& (2147483647 : Int32)))])) _
      refine iremM (g := (mkF m 38 #[.val (.int p0), .val (.int p1), .val (.int p2), .val (.int p3), .val (.int (Int32.ofNat sz)), .val (.ref b1), .val (.int (1 : Int32)), .unset, .unset, .unset, .unset] [(.int (Int32.ofNat sz)), (.int (p1 &&& (2147483647 : Int32)))])) X3 hx rfl (hb hby at_38) rfl hc5 ?_
      show Steps p.tables e below (T3.setTop (mkF m 39 #[.val (.int p0), .val (.int p1), .val (.int p2), .val (.int p3), .val (.int (Int32.ofNat sz)), .val (.ref b1), .val (.int (1 : Int32)), .unset, .unset, .unset, .unset] [(.int ((p1 &&& (2147483647 : Int32)) % (Int32.ofNat sz)))])) _
      refine XS.istore X3.here hx rfl (hb hby at_39) rfl (l' := #[.val (.int p0), .val (.int p1), .val (.int p2), .val (.int p3), .val (.int (Int32.ofNat sz)), .val (.ref b1), .val (.int (1 : Int32)), .val (.int ((p1 &&& (2147483647 : Int32)) % (Int32.ofNat sz))), .unset, .unset, .unset]) rfl ?_
      show Steps p.tables e below (T3.setTop (mkF m 41 #[.val (.int p0), .val (.int p1), .val (.int p2), .val (.int p3), .val (.int (Int32.ofNat sz)), .val (.ref b1), .val (.int (1 : Int32)), .val (.int ((p1 &&& (2147483647 : Int32)) % (Int32.ofNat sz))), .unset, .unset, .unset] [])) _
      rw [ei]
      exact kt
    obtain ⟨j, hj, ej⟩ : ∃ j, j < sz ∧ (if (p3 &&& (1 : Int32)) = (0 : Int32) then ((p2 &&& (2147483647 : Int32)) % (Int32.ofNat sz)) else Int32.ofNat i) = Int32.ofNat j := (Decidable.em ((p3 &&& (1 : Int32)) = (0 : Int32))).elim (fun q => by rw [if_pos q]; exact own_imod hc5 hsz) (fun q => by rw [if_neg q]; exact ⟨i, hi, rfl⟩)
    have pre7 : ∀ t, Steps p.tables e below (T3.setTop (mkF m 59 #[.val (.int p0), .val (.int p1), .val (.int p2), .val (.int p3), .val (.int (Int32.ofNat sz)), .val (.ref b1), .val (.int (1 : Int32)), .val (.int (Int32.ofNat i)), .unset, .unset, .unset] [(.int (Int32.ofNat j))])) t → Steps p.tables e below (s₁.setTop (entryFrame m #[(.int p0), (.int p1), (.int p2), (.int p3)] maxLocals)) t := by
      intro t kt
      refine pre6 t ?_
      show Steps p.tables e below (T3.setTop (mkF m 41 #[.val (.int p0), .val (.int p1), .val (.int p2), .val (.int p3), .val (.int (Int32.ofNat sz)), .val (.ref b1), .val (.int (1 : Int32)), .val (.int (Int32.ofNat i)), .unset, .unset, .unset] [])) _
      refine XS.iloadN X3.here hx rfl (hb hby at_41) rfl ?_
      show Steps p.tables e below (T3.setTop (mkF m 42 #[.val (.int p0), .val (.int p1), .val (.int p2), .val (.int p3), .val (.int (Int32.ofNat sz)), .val (.ref b1), .val (.int (1 : Int32)), .val (.int (Int32.ofNat i)), .unset, .unset, .unset] [(.int p3)])) _
      refine XS.iconst X3.here hx rfl (hb hby at_42) ?_
      show Steps p.tables e below (T3.setTop (mkF m 43 #[.val (.int p0), .val (.int p1), .val (.int p2), .val (.int p3), .val (.int (Int32.ofNat sz)), .val (.ref b1), .val (.int (1 : Int32)), .val (.int (Int32.ofNat i)), .unset, .unset, .unset] [(.int (1 : Int32)), (.int p3)])) _
      refine XS.iand X3.here hx rfl (hb hby at_43) rfl ?_
      by_cases hc8 : (p3 &&& (1 : Int32)) = (0 : Int32)
      · skip
        show Steps p.tables e below (T3.setTop (mkF m 44 #[.val (.int p0), .val (.int p1), .val (.int p2), .val (.int p3), .val (.int (Int32.ofNat sz)), .val (.ref b1), .val (.int (1 : Int32)), .val (.int (Int32.ofNat i)), .unset, .unset, .unset] [(.int (p3 &&& (1 : Int32)))])) _
        refine XS.ifYes X3.here hx rfl (pc0 := 44) (pc' := 52) rfl (hb hby at_44) rfl ((if0 _ _).trans (teq hc8).1) (by decide) (by decide) ?_
        show Steps p.tables e below (T3.setTop (mkF m 52 #[.val (.int p0), .val (.int p1), .val (.int p2), .val (.int p3), .val (.int (Int32.ofNat sz)), .val (.ref b1), .val (.int (1 : Int32)), .val (.int (Int32.ofNat i)), .unset, .unset, .unset] [])) _
        refine XS.iloadN X3.here hx rfl (hb hby at_52) rfl ?_
        show Steps p.tables e below (T3.setTop (mkF m 53 #[.val (.int p0), .val (.int p1), .val (.int p2), .val (.int p3), .val (.int (Int32.ofNat sz)), .val (.ref b1), .val (.int (1 : Int32)), .val (.int (Int32.ofNat i)), .unset, .unset, .unset] [(.int p2)])) _
        refine X3.ldcInt hx hown (mvT hZ (hw _ (List.mem_of_getElem? (i := 31) rfl))) (g := (mkF m 53 #[.val (.int p0), .val (.int p1), .val (.int p2), .val (.int p3), .val (.int (Int32.ofNat sz)), .val (.ref b1), .val (.int (1 : Int32)), .val (.int (Int32.ofNat i)), .unset, .unset, .unset] [(.int p2)])) rfl (hb hby at_53) _ ?_
        show Steps p.tables e below (T3.setTop (mkF m 55 #[.val (.int p0), .val (.int p1), .val (.int p2), .val (.int p3), .val (.int (Int32.ofNat sz)), .val (.ref b1), .val (.int (1 : Int32)), .val (.int (Int32.ofNat i)), .unset, .unset, .unset] [(.int (2147483647 : Int32)), (.int p2)])) _
        refine XS.iand X3.here hx rfl (hb hby at_55) rfl ?_
        show Steps p.tables e below (T3.setTop (mkF m 56 #[.val (.int p0), .val (.int p1), .val (.int p2), .val (.int p3), .val (.int (Int32.ofNat sz)), .val (.ref b1), .val (.int (1 : Int32)), .val (.int (Int32.ofNat i)), .unset, .unset, .unset] [(.int (p2 &&& (2147483647 : Int32)))])) _
        refine XS.iload X3.here hx rfl (hb hby at_56) rfl ?_
        show Steps p.tables e below (T3.setTop (mkF m 58 #[.val (.int p0), .val (.int p1), .val (.int p2), .val (.int p3), .val (.int (Int32.ofNat sz)), .val (.ref b1), .val (.int (1 : Int32)), .val (.int (Int32.ofNat i)), .unset, .unset, .unset] [(.int (Int32.ofNat sz)), (.int (p2 &&& (2147483647 : Int32)))])) _
        refine iremM (g := (mkF m 58 #[.val (.int p0), .val (.int p1), .val (.int p2), .val (.int p3), .val (.int (Int32.ofNat sz)), .val (.ref b1), .val (.int (1 : Int32)), .val (.int (Int32.ofNat i)), .unset, .unset, .unset] [(.int (Int32.ofNat sz)), (.int (p2 &&& (2147483647 : Int32)))])) X3 hx rfl (hb hby at_58) rfl hc5 ?_
        rw [show Int32.ofNat j = ((p2 &&& (2147483647 : Int32)) % (Int32.ofNat sz)) from by rw [← ej, if_pos hc8]] at kt
        exact kt
      · skip
        show Steps p.tables e below (T3.setTop (mkF m 44 #[.val (.int p0), .val (.int p1), .val (.int p2), .val (.int p3), .val (.int (Int32.ofNat sz)), .val (.ref b1), .val (.int (1 : Int32)), .val (.int (Int32.ofNat i)), .unset, .unset, .unset] [(.int (p3 &&& (1 : Int32)))])) _
        refine XS.ifNo X3.here hx rfl (hb hby at_44) rfl ((if0 _ _).trans (feq hc8).1) ?_
        show Steps p.tables e below (T3.setTop (mkF m 47 #[.val (.int p0), .val (.int p1), .val (.int p2), .val (.int p3), .val (.int (Int32.ofNat sz)), .val (.ref b1), .val (.int (1 : Int32)), .val (.int (Int32.ofNat i)), .unset, .unset, .unset] [])) _
        refine XS.iload X3.here hx rfl (hb hby at_47) rfl ?_
        show Steps p.tables e below (T3.setTop (mkF m 49 #[.val (.int p0), .val (.int p1), .val (.int p2), .val (.int p3), .val (.int (Int32.ofNat sz)), .val (.ref b1), .val (.int (1 : Int32)), .val (.int (Int32.ofNat i)), .unset, .unset, .unset] [(.int (Int32.ofNat i))])) _
        refine XS.goto X3.here hx rfl (pc0 := 49) (pc' := 59) rfl (hb hby at_49) (by decide) (by decide) ?_
        rw [show Int32.ofNat j = (Int32.ofNat i) from by rw [← ej, if_neg hc8]] at kt
        exact kt
    have pre9 : ∀ t, Steps p.tables e below (T3.setTop (mkF m 67 #[.val (.int p0), .val (.int p1), .val (.int p2), .val (.int p3), .val (.int (Int32.ofNat sz)), .val (.ref b1), .val (.int (1 : Int32)), .val (.int (Int32.ofNat i)), .val (.int (Int32.ofNat j)), .val (.int (0 : Int32)), .unset] [(.int (p3 &&& (2 : Int32)))])) t → Steps p.tables e below (s₁.setTop (entryFrame m #[(.int p0), (.int p1), (.int p2), (.int p3)] maxLocals)) t := by
      intro t kt
      refine pre7 t ?_
      show Steps p.tables e below (T3.setTop (mkF m 59 #[.val (.int p0), .val (.int p1), .val (.int p2), .val (.int p3), .val (.int (Int32.ofNat sz)), .val (.ref b1), .val (.int (1 : Int32)), .val (.int (Int32.ofNat i)), .unset, .unset, .unset] [(.int (Int32.ofNat j))])) _
      refine XS.istore X3.here hx rfl (hb hby at_59) rfl (l' := #[.val (.int p0), .val (.int p1), .val (.int p2), .val (.int p3), .val (.int (Int32.ofNat sz)), .val (.ref b1), .val (.int (1 : Int32)), .val (.int (Int32.ofNat i)), .val (.int (Int32.ofNat j)), .unset, .unset]) rfl ?_
      show Steps p.tables e below (T3.setTop (mkF m 61 #[.val (.int p0), .val (.int p1), .val (.int p2), .val (.int p3), .val (.int (Int32.ofNat sz)), .val (.ref b1), .val (.int (1 : Int32)), .val (.int (Int32.ofNat i)), .val (.int (Int32.ofNat j)), .unset, .unset] [])) _
      refine XS.iconst X3.here hx rfl (hb hby at_61) ?_
      show Steps p.tables e below (T3.setTop (mkF m 62 #[.val (.int p0), .val (.int p1), .val (.int p2), .val (.int p3), .val (.int (Int32.ofNat sz)), .val (.ref b1), .val (.int (1 : Int32)), .val (.int (Int32.ofNat i)), .val (.int (Int32.ofNat j)), .unset, .unset] [(.int (0 : Int32))])) _
      refine XS.istore X3.here hx rfl (hb hby at_62) rfl (l' := #[.val (.int p0), .val (.int p1), .val (.int p2), .val (.int p3), .val (.int (Int32.ofNat sz)), .val (.ref b1), .val (.int (1 : Int32)), .val (.int (Int32.ofNat i)), .val (.int (Int32.ofNat j)), .val (.int (0 : Int32)), .unset]) rfl ?_
      show Steps p.tables e below (T3.setTop (mkF m 64 #[.val (.int p0), .val (.int p1), .val (.int p2), .val (.int p3), .val (.int (Int32.ofNat sz)), .val (.ref b1), .val (.int (1 : Int32)), .val (.int (Int32.ofNat i)), .val (.int (Int32.ofNat j)), .val (.int (0 : Int32)), .unset] [])) _
      refine XS.iloadN X3.here hx rfl (hb hby at_64) rfl ?_
      show Steps p.tables e below (T3.setTop (mkF m 65 #[.val (.int p0), .val (.int p1), .val (.int p2), .val (.int p3), .val (.int (Int32.ofNat sz)), .val (.ref b1), .val (.int (1 : Int32)), .val (.int (Int32.ofNat i)), .val (.int (Int32.ofNat j)), .val (.int (0 : Int32)), .unset] [(.int p3)])) _
      refine XS.iconst X3.here hx rfl (hb hby at_65) ?_
      show Steps p.tables e below (T3.setTop (mkF m 66 #[.val (.int p0), .val (.int p1), .val (.int p2), .val (.int p3), .val (.int (Int32.ofNat sz)), .val (.ref b1), .val (.int (1 : Int32)), .val (.int (Int32.ofNat i)), .val (.int (Int32.ofNat j)), .val (.int (0 : Int32)), .unset] [(.int (2 : Int32)), (.int p3)])) _
      refine XS.iand X3.here hx rfl (hb hby at_66) rfl ?_
      exact kt
    by_cases hc10 : (p3 &&& (2 : Int32)) = (0 : Int32)
    · skip
      have pre11 : ∀ t, Steps p.tables e below (T3.setTop (mkF m 103 #[.val (.int p0), .val (.int p1), .val (.int p2), .val (.int p3), .val (.int (Int32.ofNat sz)), .val (.ref b1), .val (.int (1 : Int32)), .val (.int (Int32.ofNat i)), .val (.int (Int32.ofNat j)), .val (.int (0 : Int32)), .unset] [(.int (p3 &&& (4 : Int32)))])) t → Steps p.tables e below (s₁.setTop (entryFrame m #[(.int p0), (.int p1), (.int p2), (.int p3)] maxLocals)) t := by
        intro t kt
        refine pre9 t ?_
        show Steps p.tables e below (T3.setTop (mkF m 67 #[.val (.int p0), .val (.int p1), .val (.int p2), .val (.int p3), .val (.int (Int32.ofNat sz)), .val (.ref b1), .val (.int (1 : Int32)), .val (.int (Int32.ofNat i)), .val (.int (Int32.ofNat j)), .val (.int (0 : Int32)), .unset] [(.int (p3 &&& (2 : Int32)))])) _
        refine XS.ifYes X3.here hx rfl (pc0 := 67) (pc' := 100) rfl (hb hby at_67) rfl ((if0 _ _).trans (teq hc10).1) (by decide) (by decide) ?_
        show Steps p.tables e below (T3.setTop (mkF m 100 #[.val (.int p0), .val (.int p1), .val (.int p2), .val (.int p3), .val (.int (Int32.ofNat sz)), .val (.ref b1), .val (.int (1 : Int32)), .val (.int (Int32.ofNat i)), .val (.int (Int32.ofNat j)), .val (.int (0 : Int32)), .unset] [])) _
        refine XS.iloadN X3.here hx rfl (hb hby at_100) rfl ?_
        show Steps p.tables e below (T3.setTop (mkF m 101 #[.val (.int p0), .val (.int p1), .val (.int p2), .val (.int p3), .val (.int (Int32.ofNat sz)), .val (.ref b1), .val (.int (1 : Int32)), .val (.int (Int32.ofNat i)), .val (.int (Int32.ofNat j)), .val (.int (0 : Int32)), .unset] [(.int p3)])) _
        refine XS.iconst X3.here hx rfl (hb hby at_101) ?_
        show Steps p.tables e below (T3.setTop (mkF m 102 #[.val (.int p0), .val (.int p1), .val (.int p2), .val (.int p3), .val (.int (Int32.ofNat sz)), .val (.ref b1), .val (.int (1 : Int32)), .val (.int (Int32.ofNat i)), .val (.int (Int32.ofNat j)), .val (.int (0 : Int32)), .unset] [(.int (4 : Int32)), (.int p3)])) _
        refine XS.iand X3.here hx rfl (hb hby at_102) rfl ?_
        exact kt
      by_cases hc12 : (p3 &&& (4 : Int32)) = (0 : Int32)
      · skip
        have pre13 : ∀ t, Steps p.tables e below (T3.setTop (mkF m 158 #[.val (.int p0), .val (.int p1), .val (.int p2), .val (.int p3), .val (.int (Int32.ofNat sz)), .val (.ref b1), .val (.int (1 : Int32)), .val (.int (Int32.ofNat i)), .val (.int (Int32.ofNat j)), .val (.int (0 : Int32)), .val (.int (((p3.toUInt32 >>> ((3 : Int32) &&& 31).toUInt32).toInt32) &&& (3 : Int32)))] [(.int (1 : Int32)), (.int (((p3.toUInt32 >>> ((3 : Int32) &&& 31).toUInt32).toInt32) &&& (3 : Int32)))])) t → Steps p.tables e below (s₁.setTop (entryFrame m #[(.int p0), (.int p1), (.int p2), (.int p3)] maxLocals)) t := by
          intro t kt
          refine pre11 t ?_
          show Steps p.tables e below (T3.setTop (mkF m 103 #[.val (.int p0), .val (.int p1), .val (.int p2), .val (.int p3), .val (.int (Int32.ofNat sz)), .val (.ref b1), .val (.int (1 : Int32)), .val (.int (Int32.ofNat i)), .val (.int (Int32.ofNat j)), .val (.int (0 : Int32)), .unset] [(.int (p3 &&& (4 : Int32)))])) _
          refine XS.ifYes X3.here hx rfl (pc0 := 103) (pc' := 148) rfl (hb hby at_103) rfl ((if0 _ _).trans (teq hc12).1) (by decide) (by decide) ?_
          show Steps p.tables e below (T3.setTop (mkF m 148 #[.val (.int p0), .val (.int p1), .val (.int p2), .val (.int p3), .val (.int (Int32.ofNat sz)), .val (.ref b1), .val (.int (1 : Int32)), .val (.int (Int32.ofNat i)), .val (.int (Int32.ofNat j)), .val (.int (0 : Int32)), .unset] [])) _
          refine XS.iloadN X3.here hx rfl (hb hby at_148) rfl ?_
          show Steps p.tables e below (T3.setTop (mkF m 149 #[.val (.int p0), .val (.int p1), .val (.int p2), .val (.int p3), .val (.int (Int32.ofNat sz)), .val (.ref b1), .val (.int (1 : Int32)), .val (.int (Int32.ofNat i)), .val (.int (Int32.ofNat j)), .val (.int (0 : Int32)), .unset] [(.int p3)])) _
          refine XS.iconst X3.here hx rfl (hb hby at_149) ?_
          show Steps p.tables e below (T3.setTop (mkF m 150 #[.val (.int p0), .val (.int p1), .val (.int p2), .val (.int p3), .val (.int (Int32.ofNat sz)), .val (.ref b1), .val (.int (1 : Int32)), .val (.int (Int32.ofNat i)), .val (.int (Int32.ofNat j)), .val (.int (0 : Int32)), .unset] [(.int (3 : Int32)), (.int p3)])) _
          refine XS.iushr X3.here hx rfl (hb hby at_150) rfl ?_
          show Steps p.tables e below (T3.setTop (mkF m 151 #[.val (.int p0), .val (.int p1), .val (.int p2), .val (.int p3), .val (.int (Int32.ofNat sz)), .val (.ref b1), .val (.int (1 : Int32)), .val (.int (Int32.ofNat i)), .val (.int (Int32.ofNat j)), .val (.int (0 : Int32)), .unset] [(.int ((p3.toUInt32 >>> ((3 : Int32) &&& 31).toUInt32).toInt32))])) _
          refine XS.iconst X3.here hx rfl (hb hby at_151) ?_
          show Steps p.tables e below (T3.setTop (mkF m 152 #[.val (.int p0), .val (.int p1), .val (.int p2), .val (.int p3), .val (.int (Int32.ofNat sz)), .val (.ref b1), .val (.int (1 : Int32)), .val (.int (Int32.ofNat i)), .val (.int (Int32.ofNat j)), .val (.int (0 : Int32)), .unset] [(.int (3 : Int32)), (.int ((p3.toUInt32 >>> ((3 : Int32) &&& 31).toUInt32).toInt32))])) _
          refine XS.iand X3.here hx rfl (hb hby at_152) rfl ?_
          show Steps p.tables e below (T3.setTop (mkF m 153 #[.val (.int p0), .val (.int p1), .val (.int p2), .val (.int p3), .val (.int (Int32.ofNat sz)), .val (.ref b1), .val (.int (1 : Int32)), .val (.int (Int32.ofNat i)), .val (.int (Int32.ofNat j)), .val (.int (0 : Int32)), .unset] [(.int (((p3.toUInt32 >>> ((3 : Int32) &&& 31).toUInt32).toInt32) &&& (3 : Int32)))])) _
          refine XS.istore X3.here hx rfl (hb hby at_153) rfl (l' := #[.val (.int p0), .val (.int p1), .val (.int p2), .val (.int p3), .val (.int (Int32.ofNat sz)), .val (.ref b1), .val (.int (1 : Int32)), .val (.int (Int32.ofNat i)), .val (.int (Int32.ofNat j)), .val (.int (0 : Int32)), .val (.int (((p3.toUInt32 >>> ((3 : Int32) &&& 31).toUInt32).toInt32) &&& (3 : Int32)))]) rfl ?_
          show Steps p.tables e below (T3.setTop (mkF m 155 #[.val (.int p0), .val (.int p1), .val (.int p2), .val (.int p3), .val (.int (Int32.ofNat sz)), .val (.ref b1), .val (.int (1 : Int32)), .val (.int (Int32.ofNat i)), .val (.int (Int32.ofNat j)), .val (.int (0 : Int32)), .val (.int (((p3.toUInt32 >>> ((3 : Int32) &&& 31).toUInt32).toInt32) &&& (3 : Int32)))] [])) _
          refine XS.iload X3.here hx rfl (hb hby at_155) rfl ?_
          show Steps p.tables e below (T3.setTop (mkF m 157 #[.val (.int p0), .val (.int p1), .val (.int p2), .val (.int p3), .val (.int (Int32.ofNat sz)), .val (.ref b1), .val (.int (1 : Int32)), .val (.int (Int32.ofNat i)), .val (.int (Int32.ofNat j)), .val (.int (0 : Int32)), .val (.int (((p3.toUInt32 >>> ((3 : Int32) &&& 31).toUInt32).toInt32) &&& (3 : Int32)))] [(.int (((p3.toUInt32 >>> ((3 : Int32) &&& 31).toUInt32).toInt32) &&& (3 : Int32)))])) _
          refine XS.iconst X3.here hx rfl (hb hby at_157) ?_
          exact kt
        by_cases hc14 : (((p3.toUInt32 >>> ((3 : Int32) &&& 31).toUInt32).toInt32) &&& (3 : Int32)) < (1 : Int32)
        · skip
          have pre15 : ∀ t, Steps p.tables e below (T3.setTop (mkF m 208 #[.val (.int p0), .val (.int p1), .val (.int p2), .val (.int p3), .val (.int (Int32.ofNat sz)), .val (.ref b1), .val (.int (1 : Int32)), .val (.int (Int32.ofNat i)), .val (.int (Int32.ofNat j)), .val (.int (0 : Int32)), .val (.int (((p3.toUInt32 >>> ((3 : Int32) &&& 31).toUInt32).toInt32) &&& (3 : Int32)))] [(.int (2 : Int32)), (.int (((p3.toUInt32 >>> ((3 : Int32) &&& 31).toUInt32).toInt32) &&& (3 : Int32)))])) t → Steps p.tables e below (s₁.setTop (entryFrame m #[(.int p0), (.int p1), (.int p2), (.int p3)] maxLocals)) t := by
            intro t kt
            refine pre13 t ?_
            show Steps p.tables e below (T3.setTop (mkF m 158 #[.val (.int p0), .val (.int p1), .val (.int p2), .val (.int p3), .val (.int (Int32.ofNat sz)), .val (.ref b1), .val (.int (1 : Int32)), .val (.int (Int32.ofNat i)), .val (.int (Int32.ofNat j)), .val (.int (0 : Int32)), .val (.int (((p3.toUInt32 >>> ((3 : Int32) &&& 31).toUInt32).toInt32) &&& (3 : Int32)))] [(.int (1 : Int32)), (.int (((p3.toUInt32 >>> ((3 : Int32) &&& 31).toUInt32).toInt32) &&& (3 : Int32)))])) _
            refine XS.icmpYes X3.here hx rfl (pc0 := 158) (pc' := 205) rfl (hb hby at_158) rfl (tlt hc14).1 (by decide) (by decide) ?_
            show Steps p.tables e below (T3.setTop (mkF m 205 #[.val (.int p0), .val (.int p1), .val (.int p2), .val (.int p3), .val (.int (Int32.ofNat sz)), .val (.ref b1), .val (.int (1 : Int32)), .val (.int (Int32.ofNat i)), .val (.int (Int32.ofNat j)), .val (.int (0 : Int32)), .val (.int (((p3.toUInt32 >>> ((3 : Int32) &&& 31).toUInt32).toInt32) &&& (3 : Int32)))] [])) _
            refine XS.iload X3.here hx rfl (hb hby at_205) rfl ?_
            show Steps p.tables e below (T3.setTop (mkF m 207 #[.val (.int p0), .val (.int p1), .val (.int p2), .val (.int p3), .val (.int (Int32.ofNat sz)), .val (.ref b1), .val (.int (1 : Int32)), .val (.int (Int32.ofNat i)), .val (.int (Int32.ofNat j)), .val (.int (0 : Int32)), .val (.int (((p3.toUInt32 >>> ((3 : Int32) &&& 31).toUInt32).toInt32) &&& (3 : Int32)))] [(.int (((p3.toUInt32 >>> ((3 : Int32) &&& 31).toUInt32).toInt32) &&& (3 : Int32)))])) _
            refine XS.iconst X3.here hx rfl (hb hby at_207) ?_
            exact kt
          by_cases hc16 : (((p3.toUInt32 >>> ((3 : Int32) &&& 31).toUInt32).toInt32) &&& (3 : Int32)) < (2 : Int32)
          · skip
            obtain ⟨fs, hr, hrun, hended, hW, hsame⟩ := X3.leave (v := some (.int (1 : Int32))) (fun h => by rw [Bd.returns] at h; cases h)
            refine ⟨_, _, pre15 _ ?_, hrun, hended, _, _, rfl, ?_, ⟨_, rfl⟩, hW, hsame.mono (by decide) (by decide)⟩
            · skip
              show Steps p.tables e below (T3.setTop (mkF m 208 #[.val (.int p0), .val (.int p1), .val (.int p2), .val (.int p3), .val (.int (Int32.ofNat sz)), .val (.ref b1), .val (.int (1 : Int32)), .val (.int (Int32.ofNat i)), .val (.int (Int32.ofNat j)), .val (.int (0 : Int32)), .val (.int (((p3.toUInt32 >>> ((3 : Int32) &&& 31).toUInt32).toInt32) &&& (3 : Int32)))] [(.int (2 : Int32)), (.int (((p3.toUInt32 >>> ((3 : Int32) &&& 31).toUInt32).toInt32) &&& (3 : Int32)))])) _
              refine XS.icmpYes X3.here hx rfl (pc0 := 208) (pc' := 255) rfl (hb hby at_208) rfl (tlt hc16).1 (by decide) (by decide) ?_
              show Steps p.tables e below (T3.setTop (mkF m 255 #[.val (.int p0), .val (.int p1), .val (.int p2), .val (.int p3), .val (.int (Int32.ofNat sz)), .val (.ref b1), .val (.int (1 : Int32)), .val (.int (Int32.ofNat i)), .val (.int (Int32.ofNat j)), .val (.int (0 : Int32)), .val (.int (((p3.toUInt32 >>> ((3 : Int32) &&& 31).toUInt32).toInt32) &&& (3 : Int32)))] [])) _
              refine XS.iload X3.here hx rfl (hb hby at_255) rfl ?_
              show Steps p.tables e below (T3.setTop (mkF m 257 #[.val (.int p0), .val (.int p1), .val (.int p2), .val (.int p3), .val (.int (Int32.ofNat sz)), .val (.ref b1), .val (.int (1 : Int32)), .val (.int (Int32.ofNat i)), .val (.int (Int32.ofNat j)), .val (.int (0 : Int32)), .val (.int (((p3.toUInt32 >>> ((3 : Int32) &&& 31).toUInt32).toInt32) &&& (3 : Int32)))] [(.int (1 : Int32))])) _
              exact retN X3 hx (t := .boolean) Bd.returns (by simp) (hb hby at_257) hr
            · exact ⟨(by first | rfl | simp [hc5, hc10, hc12, hc14, hc16]), N3⟩
          · skip
            obtain ⟨fs, hr, hrun, hended, hW, hsame⟩ := X3.leave (v := some (.int (1 : Int32))) (fun h => by rw [Bd.returns] at h; cases h)
            refine ⟨_, _, pre15 _ ?_, hrun, hended, _, _, rfl, ?_, ⟨_, rfl⟩, hW, hsame.mono (by decide) (by decide)⟩
            · skip
              show Steps p.tables e below (T3.setTop (mkF m 208 #[.val (.int p0), .val (.int p1), .val (.int p2), .val (.int p3), .val (.int (Int32.ofNat sz)), .val (.ref b1), .val (.int (1 : Int32)), .val (.int (Int32.ofNat i)), .val (.int (Int32.ofNat j)), .val (.int (0 : Int32)), .val (.int (((p3.toUInt32 >>> ((3 : Int32) &&& 31).toUInt32).toInt32) &&& (3 : Int32)))] [(.int (2 : Int32)), (.int (((p3.toUInt32 >>> ((3 : Int32) &&& 31).toUInt32).toInt32) &&& (3 : Int32)))])) _
              refine XS.icmpNo X3.here hx rfl (hb hby at_208) rfl (flt hc16).1 ?_
              show Steps p.tables e below (T3.setTop (mkF m 211 #[.val (.int p0), .val (.int p1), .val (.int p2), .val (.int p3), .val (.int (Int32.ofNat sz)), .val (.ref b1), .val (.int (1 : Int32)), .val (.int (Int32.ofNat i)), .val (.int (Int32.ofNat j)), .val (.int (0 : Int32)), .val (.int (((p3.toUInt32 >>> ((3 : Int32) &&& 31).toUInt32).toInt32) &&& (3 : Int32)))] [])) _
              refine XS.iload X3.here hx rfl (hb hby at_211) rfl ?_
              show Steps p.tables e below (T3.setTop (mkF m 213 #[.val (.int p0), .val (.int p1), .val (.int p2), .val (.int p3), .val (.int (Int32.ofNat sz)), .val (.ref b1), .val (.int (1 : Int32)), .val (.int (Int32.ofNat i)), .val (.int (Int32.ofNat j)), .val (.int (0 : Int32)), .val (.int (((p3.toUInt32 >>> ((3 : Int32) &&& 31).toUInt32).toInt32) &&& (3 : Int32)))] [(.int (0 : Int32))])) _
              refine XS.ifYes X3.here hx rfl (pc0 := 213) (pc' := 255) rfl (hb hby at_213) rfl ((if0 _ _).trans (flt (by decide : ¬ ((0 : Int32) < (0 : Int32)))).2.2.2) (by decide) (by decide) ?_
              show Steps p.tables e below (T3.setTop (mkF m 255 #[.val (.int p0), .val (.int p1), .val (.int p2), .val (.int p3), .val (.int (Int32.ofNat sz)), .val (.ref b1), .val (.int (1 : Int32)), .val (.int (Int32.ofNat i)), .val (.int (Int32.ofNat j)), .val (.int (0 : Int32)), .val (.int (((p3.toUInt32 >>> ((3 : Int32) &&& 31).toUInt32).toInt32) &&& (3 : Int32)))] [])) _
              refine XS.iload X3.here hx rfl (hb hby at_255) rfl ?_
              show Steps p.tables e below (T3.setTop (mkF m 257 #[.val (.int p0), .val (.int p1), .val (.int p2), .val (.int p3), .val (.int (Int32.ofNat sz)), .val (.ref b1), .val (.int (1 : Int32)), .val (.int (Int32.ofNat i)), .val (.int (Int32.ofNat j)), .val (.int (0 : Int32)), .val (.int (((p3.toUInt32 >>> ((3 : Int32) &&& 31).toUInt32).toInt32) &&& (3 : Int32)))] [(.int (1 : Int32))])) _
              exact retN X3 hx (t := .boolean) Bd.returns (by simp) (hb hby at_257) hr
            · exact ⟨(by first | rfl | simp [hc5, hc10, hc12, hc14, hc16]), N3⟩
        · skip
          have pre17 : ∀ t, Steps p.tables e below (T3.setTop (mkF m 208 #[.val (.int p0), .val (.int p1), .val (.int p2), .val (.int p3), .val (.int (Int32.ofNat sz)), .val (.ref b1), .val (.int (1 : Int32)), .val (.int (Int32.ofNat i)), .val (.int (Int32.ofNat j)), .val (.int (0 : Int32)), .val (.int (((p3.toUInt32 >>> ((3 : Int32) &&& 31).toUInt32).toInt32) &&& (3 : Int32)))] [(.int (2 : Int32)), (.int (((p3.toUInt32 >>> ((3 : Int32) &&& 31).toUInt32).toInt32) &&& (3 : Int32)))])) t → Steps p.tables e below (s₁.setTop (entryFrame m #[(.int p0), (.int p1), (.int p2), (.int p3)] maxLocals)) t := by
            intro t kt
            refine pre13 t ?_
            show Steps p.tables e below (T3.setTop (mkF m 158 #[.val (.int p0), .val (.int p1), .val (.int p2), .val (.int p3), .val (.int (Int32.ofNat sz)), .val (.ref b1), .val (.int (1 : Int32)), .val (.int (Int32.ofNat i)), .val (.int (Int32.ofNat j)), .val (.int (0 : Int32)), .val (.int (((p3.toUInt32 >>> ((3 : Int32) &&& 31).toUInt32).toInt32) &&& (3 : Int32)))] [(.int (1 : Int32)), (.int (((p3.toUInt32 >>> ((3 : Int32) &&& 31).toUInt32).toInt32) &&& (3 : Int32)))])) _
            refine XS.icmpNo X3.here hx rfl (hb hby at_158) rfl (flt hc14).1 ?_
            show Steps p.tables e below (T3.setTop (mkF m 161 #[.val (.int p0), .val (.int p1), .val (.int p2), .val (.int p3), .val (.int (Int32.ofNat sz)), .val (.ref b1), .val (.int (1 : Int32)), .val (.int (Int32.ofNat i)), .val (.int (Int32.ofNat j)), .val (.int (0 : Int32)), .val (.int (((p3.toUInt32 >>> ((3 : Int32) &&& 31).toUInt32).toInt32) &&& (3 : Int32)))] [])) _
            refine XS.iload X3.here hx rfl (hb hby at_161) rfl ?_
            show Steps p.tables e below (T3.setTop (mkF m 163 #[.val (.int p0), .val (.int p1), .val (.int p2), .val (.int p3), .val (.int (Int32.ofNat sz)), .val (.ref b1), .val (.int (1 : Int32)), .val (.int (Int32.ofNat i)), .val (.int (Int32.ofNat j)), .val (.int (0 : Int32)), .val (.int (((p3.toUInt32 >>> ((3 : Int32) &&& 31).toUInt32).toInt32) &&& (3 : Int32)))] [(.int (0 : Int32))])) _
            refine XS.ifYes X3.here hx rfl (pc0 := 163) (pc' := 205) rfl (hb hby at_163) rfl ((if0 _ _).trans (flt (by decide : ¬ ((0 : Int32) < (0 : Int32)))).2.2.2) (by decide) (by decide) ?_
            show Steps p.tables e below (T3.setTop (mkF m 205 #[.val (.int p0), .val (.int p1), .val (.int p2), .val (.int p3), .val (.int (Int32.ofNat sz)), .val (.ref b1), .val (.int (1 : Int32)), .val (.int (Int32.ofNat i)), .val (.int (Int32.ofNat j)), .val (.int (0 : Int32)), .val (.int (((p3.toUInt32 >>> ((3 : Int32) &&& 31).toUInt32).toInt32) &&& (3 : Int32)))] [])) _
            refine XS.iload X3.here hx rfl (hb hby at_205) rfl ?_
            show Steps p.tables e below (T3.setTop (mkF m 207 #[.val (.int p0), .val (.int p1), .val (.int p2), .val (.int p3), .val (.int (Int32.ofNat sz)), .val (.ref b1), .val (.int (1 : Int32)), .val (.int (Int32.ofNat i)), .val (.int (Int32.ofNat j)), .val (.int (0 : Int32)), .val (.int (((p3.toUInt32 >>> ((3 : Int32) &&& 31).toUInt32).toInt32) &&& (3 : Int32)))] [(.int (((p3.toUInt32 >>> ((3 : Int32) &&& 31).toUInt32).toInt32) &&& (3 : Int32)))])) _
            refine XS.iconst X3.here hx rfl (hb hby at_207) ?_
            exact kt
          by_cases hc18 : (((p3.toUInt32 >>> ((3 : Int32) &&& 31).toUInt32).toInt32) &&& (3 : Int32)) < (2 : Int32)
          · skip
            obtain ⟨fs, hr, hrun, hended, hW, hsame⟩ := X3.leave (v := some (.int (1 : Int32))) (fun h => by rw [Bd.returns] at h; cases h)
            refine ⟨_, _, pre17 _ ?_, hrun, hended, _, _, rfl, ?_, ⟨_, rfl⟩, hW, hsame.mono (by decide) (by decide)⟩
            · skip
              show Steps p.tables e below (T3.setTop (mkF m 208 #[.val (.int p0), .val (.int p1), .val (.int p2), .val (.int p3), .val (.int (Int32.ofNat sz)), .val (.ref b1), .val (.int (1 : Int32)), .val (.int (Int32.ofNat i)), .val (.int (Int32.ofNat j)), .val (.int (0 : Int32)), .val (.int (((p3.toUInt32 >>> ((3 : Int32) &&& 31).toUInt32).toInt32) &&& (3 : Int32)))] [(.int (2 : Int32)), (.int (((p3.toUInt32 >>> ((3 : Int32) &&& 31).toUInt32).toInt32) &&& (3 : Int32)))])) _
              refine XS.icmpYes X3.here hx rfl (pc0 := 208) (pc' := 255) rfl (hb hby at_208) rfl (tlt hc18).1 (by decide) (by decide) ?_
              show Steps p.tables e below (T3.setTop (mkF m 255 #[.val (.int p0), .val (.int p1), .val (.int p2), .val (.int p3), .val (.int (Int32.ofNat sz)), .val (.ref b1), .val (.int (1 : Int32)), .val (.int (Int32.ofNat i)), .val (.int (Int32.ofNat j)), .val (.int (0 : Int32)), .val (.int (((p3.toUInt32 >>> ((3 : Int32) &&& 31).toUInt32).toInt32) &&& (3 : Int32)))] [])) _
              refine XS.iload X3.here hx rfl (hb hby at_255) rfl ?_
              show Steps p.tables e below (T3.setTop (mkF m 257 #[.val (.int p0), .val (.int p1), .val (.int p2), .val (.int p3), .val (.int (Int32.ofNat sz)), .val (.ref b1), .val (.int (1 : Int32)), .val (.int (Int32.ofNat i)), .val (.int (Int32.ofNat j)), .val (.int (0 : Int32)), .val (.int (((p3.toUInt32 >>> ((3 : Int32) &&& 31).toUInt32).toInt32) &&& (3 : Int32)))] [(.int (1 : Int32))])) _
              exact retN X3 hx (t := .boolean) Bd.returns (by simp) (hb hby at_257) hr
            · exact ⟨(by first | rfl | simp [hc5, hc10, hc12, hc14, hc18]), N3⟩
          · skip
            obtain ⟨fs, hr, hrun, hended, hW, hsame⟩ := X3.leave (v := some (.int (1 : Int32))) (fun h => by rw [Bd.returns] at h; cases h)
            refine ⟨_, _, pre17 _ ?_, hrun, hended, _, _, rfl, ?_, ⟨_, rfl⟩, hW, hsame.mono (by decide) (by decide)⟩
            · skip
              show Steps p.tables e below (T3.setTop (mkF m 208 #[.val (.int p0), .val (.int p1), .val (.int p2), .val (.int p3), .val (.int (Int32.ofNat sz)), .val (.ref b1), .val (.int (1 : Int32)), .val (.int (Int32.ofNat i)), .val (.int (Int32.ofNat j)), .val (.int (0 : Int32)), .val (.int (((p3.toUInt32 >>> ((3 : Int32) &&& 31).toUInt32).toInt32) &&& (3 : Int32)))] [(.int (2 : Int32)), (.int (((p3.toUInt32 >>> ((3 : Int32) &&& 31).toUInt32).toInt32) &&& (3 : Int32)))])) _
              refine XS.icmpNo X3.here hx rfl (hb hby at_208) rfl (flt hc18).1 ?_
              show Steps p.tables e below (T3.setTop (mkF m 211 #[.val (.int p0), .val (.int p1), .val (.int p2), .val (.int p3), .val (.int (Int32.ofNat sz)), .val (.ref b1), .val (.int (1 : Int32)), .val (.int (Int32.ofNat i)), .val (.int (Int32.ofNat j)), .val (.int (0 : Int32)), .val (.int (((p3.toUInt32 >>> ((3 : Int32) &&& 31).toUInt32).toInt32) &&& (3 : Int32)))] [])) _
              refine XS.iload X3.here hx rfl (hb hby at_211) rfl ?_
              show Steps p.tables e below (T3.setTop (mkF m 213 #[.val (.int p0), .val (.int p1), .val (.int p2), .val (.int p3), .val (.int (Int32.ofNat sz)), .val (.ref b1), .val (.int (1 : Int32)), .val (.int (Int32.ofNat i)), .val (.int (Int32.ofNat j)), .val (.int (0 : Int32)), .val (.int (((p3.toUInt32 >>> ((3 : Int32) &&& 31).toUInt32).toInt32) &&& (3 : Int32)))] [(.int (0 : Int32))])) _
              refine XS.ifYes X3.here hx rfl (pc0 := 213) (pc' := 255) rfl (hb hby at_213) rfl ((if0 _ _).trans (flt (by decide : ¬ ((0 : Int32) < (0 : Int32)))).2.2.2) (by decide) (by decide) ?_
              show Steps p.tables e below (T3.setTop (mkF m 255 #[.val (.int p0), .val (.int p1), .val (.int p2), .val (.int p3), .val (.int (Int32.ofNat sz)), .val (.ref b1), .val (.int (1 : Int32)), .val (.int (Int32.ofNat i)), .val (.int (Int32.ofNat j)), .val (.int (0 : Int32)), .val (.int (((p3.toUInt32 >>> ((3 : Int32) &&& 31).toUInt32).toInt32) &&& (3 : Int32)))] [])) _
              refine XS.iload X3.here hx rfl (hb hby at_255) rfl ?_
              show Steps p.tables e below (T3.setTop (mkF m 257 #[.val (.int p0), .val (.int p1), .val (.int p2), .val (.int p3), .val (.int (Int32.ofNat sz)), .val (.ref b1), .val (.int (1 : Int32)), .val (.int (Int32.ofNat i)), .val (.int (Int32.ofNat j)), .val (.int (0 : Int32)), .val (.int (((p3.toUInt32 >>> ((3 : Int32) &&& 31).toUInt32).toInt32) &&& (3 : Int32)))] [(.int (1 : Int32))])) _
              exact retN X3 hx (t := .boolean) Bd.returns (by simp) (hb hby at_257) hr
            · exact ⟨(by first | rfl | simp [hc5, hc10, hc12, hc14, hc18]), N3⟩
      · skip
        obtain ⟨cq19, kq19, q19a, q19b, q19c⟩ := isOf hZ e3 Ex2
        obtain ⟨_, _, ⟨T19, L19, k19, n19⟩, -, X19, ⟨Lc19, hQ19, l19, y19, z19⟩, st19⟩ := X3.virtualBack hx (y := (⟨"com/example/halfword/halfword/verify/RoundRobinSet", "add", "(I)V"⟩ : MethodName)) (z := (⟨"com/example/halfword/halfword/verify/RoundRobinSet", "add", "(I)V"⟩ : MethodName)) hown (mvT hZ (hw _ (List.mem_of_getElem? (i := 32) rfl))) (mvT hZ (hw _ (List.mem_of_getElem? (i := 33) rfl))) (notFace_of_selects (args := #[]) (mvT hZ (hw _ (List.mem_of_getElem? (i := 35) rfl)))) (mvT hZ (hw _ (List.mem_of_getElem? (i := 35) rfl))) (mvT hZ (hw _ (List.mem_of_getElem? (i := 34) rfl))) (by decide) (backOf (W := 0) (rAdd l Z a0 hw [] b1 sz 0 j (fun _ => False) T2.heap n0 (Rr2.le) Rr2 hj) hZ (hw _ (List.mem_of_getElem? (i := 36) rfl)) (hw _ (List.mem_of_getElem? (i := 3) rfl)) (by decide) (by decide)) q19a q19c (g := (mkF m 110 #[.val (.int p0), .val (.int p1), .val (.int p2), .val (.int p3), .val (.int (Int32.ofNat sz)), .val (.ref b1), .val (.int (1 : Int32)), .val (.int (Int32.ofNat i)), .val (.int (Int32.ofNat j)), .val (.int (0 : Int32)), .unset] [(.int (Int32.ofNat j)), (.ref b1)])) rfl (by rw [hml]; rfl) (Steps.refl _) (argsL := [(.int (Int32.ofNat j))]) (rest := []) (lenOf pd__I_V rfl) rfl (by show 2 * 0 + _ ≤ _; exact Nat.le_of_eq rfl) (hb hby at_110) (fun _ _ => ⟨rfl, e3, (by decide : 6 + 0 ≤ _), (by decide : 17415 + 0 ≤ _)⟩)
        dsimp only [Pt.U, Pt.locs, Pt.cells, Pt.slots] at X19 l19 y19 z19 st19 hQ19
        rw [l19, y19, z19] at X19
        obtain ⟨rfl, N19q, Rr19⟩ := hQ19
        have N19 := Fr.app N3 N19q
        have Ex19 := Rr19.ex
        obtain ⟨cq20, kq20, q20a, q20b, q20c⟩ := isOf hZ rfl Ex19
        obtain ⟨_, _, ⟨T20, L20, k20, n20⟩, -, X20, ⟨Lc20, hQ20, l20, y20, z20⟩, st20⟩ := X19.virtualBack hx (y := (⟨"com/example/halfword/halfword/verify/RoundRobinSet", "isEmpty", "()Z"⟩ : MethodName)) (z := (⟨"com/example/halfword/halfword/verify/RoundRobinSet", "isEmpty", "()Z"⟩ : MethodName)) hown (mvT hZ (hw _ (List.mem_of_getElem? (i := 26) rfl))) (mvT hZ (hw _ (List.mem_of_getElem? (i := 27) rfl))) (notFace_of_selects (args := #[]) (mvT hZ (hw _ (List.mem_of_getElem? (i := 29) rfl)))) (mvT hZ (hw _ (List.mem_of_getElem? (i := 29) rfl))) (mvT hZ (hw _ (List.mem_of_getElem? (i := 28) rfl))) (by decide) (backOf (W := 0) (rEm l Z a0 hw [] b1 sz 0 (Ad (fun _ => False) j) (0 : Int32) T19.heap n0 (Rr19.le) Rr19 (Or.inr ⟨rfl, Cnt.some (c := 0) (Cnt.add0 Cnt.zero j)⟩)) hZ (hw _ (List.mem_of_getElem? (i := 30) rfl)) (hw _ (List.mem_of_getElem? (i := 3) rfl)) (by decide) (by decide)) q20a q20c (g := (mkF m 135 #[.val (.int p0), .val (.int p1), .val (.int p2), .val (.int p3), .val (.int (Int32.ofNat sz)), .val (.ref b1), .val (.int (1 : Int32)), .val (.int (Int32.ofNat i)), .val (.int (Int32.ofNat j)), .val (.int ((0 : Int32) + (1 : Int32))), .unset] [(.ref b1)])) rfl (by rw [hml]; rfl) (Steps.refl _) (argsL := []) (rest := []) (lenOf pd___Z rfl) rfl (by show 2 * 0 + _ ≤ _; exact Nat.le_of_eq rfl) (hb hby at_135) (fun _ _ => ⟨rfl, rfl, (by decide : 6 + 0 ≤ _), (by decide : 17415 + 0 ≤ _)⟩)
        dsimp only [Pt.U, Pt.locs, Pt.cells, Pt.slots] at X20 l20 y20 z20 st20 hQ20
        rw [l20, y20, z20] at X20
        obtain ⟨rfl, N20q, e20⟩ := hQ20
        have N20 := Fr.app N19 N20q
        have pre21 : ∀ t, Steps p.tables e below (T20.setTop (mkF m 158 #[.val (.int p0), .val (.int p1), .val (.int p2), .val (.int p3), .val (.int (Int32.ofNat sz)), .val (.ref b1), .val (.int (1 : Int32)), .val (.int (Int32.ofNat i)), .val (.int (Int32.ofNat j)), .val (.int ((0 : Int32) + (1 : Int32))), .val (.int (((p3.toUInt32 >>> ((3 : Int32) &&& 31).toUInt32).toInt32) &&& (3 : Int32)))] [(.int (1 : Int32)), (.int (((p3.toUInt32 >>> ((3 : Int32) &&& 31).toUInt32).toInt32) &&& (3 : Int32)))])) t → Steps p.tables e below (s₁.setTop (entryFrame m #[(.int p0), (.int p1), (.int p2), (.int p3)] maxLocals)) t := by
          intro t kt
          refine pre11 t ?_
          show Steps p.tables e below (T3.setTop (mkF m 103 #[.val (.int p0), .val (.int p1), .val (.int p2), .val (.int p3), .val (.int (Int32.ofNat sz)), .val (.ref b1), .val (.int (1 : Int32)), .val (.int (Int32.ofNat i)), .val (.int (Int32.ofNat j)), .val (.int (0 : Int32)), .unset] [(.int (p3 &&& (4 : Int32)))])) _
          refine XS.ifNo X3.here hx rfl (hb hby at_103) rfl ((if0 _ _).trans (feq hc12).1) ?_
          show Steps p.tables e below (T3.setTop (mkF m 106 #[.val (.int p0), .val (.int p1), .val (.int p2), .val (.int p3), .val (.int (Int32.ofNat sz)), .val (.ref b1), .val (.int (1 : Int32)), .val (.int (Int32.ofNat i)), .val (.int (Int32.ofNat j)), .val (.int (0 : Int32)), .unset] [])) _
          refine XS.aload X3.here hx rfl (hb hby at_106) rfl rfl ?_
          show Steps p.tables e below (T3.setTop (mkF m 108 #[.val (.int p0), .val (.int p1), .val (.int p2), .val (.int p3), .val (.int (Int32.ofNat sz)), .val (.ref b1), .val (.int (1 : Int32)), .val (.int (Int32.ofNat i)), .val (.int (Int32.ofNat j)), .val (.int (0 : Int32)), .unset] [(.ref b1)])) _
          refine XS.iload X3.here hx rfl (hb hby at_108) rfl ?_
          show Steps p.tables e below (T3.setTop (mkF m 110 #[.val (.int p0), .val (.int p1), .val (.int p2), .val (.int p3), .val (.int (Int32.ofNat sz)), .val (.ref b1), .val (.int (1 : Int32)), .val (.int (Int32.ofNat i)), .val (.int (Int32.ofNat j)), .val (.int (0 : Int32)), .unset] [(.int (Int32.ofNat j)), (.ref b1)])) _
          refine st19.trans ?_
          show Steps p.tables e below (T19.setTop (mkF m 113 #[.val (.int p0), .val (.int p1), .val (.int p2), .val (.int p3), .val (.int (Int32.ofNat sz)), .val (.ref b1), .val (.int (1 : Int32)), .val (.int (Int32.ofNat i)), .val (.int (Int32.ofNat j)), .val (.int (0 : Int32)), .unset] [])) _
          refine XS.iload X19.here hx rfl (hb hby at_113) rfl ?_
          show Steps p.tables e below (T19.setTop (mkF m 115 #[.val (.int p0), .val (.int p1), .val (.int p2), .val (.int p3), .val (.int (Int32.ofNat sz)), .val (.ref b1), .val (.int (1 : Int32)), .val (.int (Int32.ofNat i)), .val (.int (Int32.ofNat j)), .val (.int (0 : Int32)), .unset] [(.int (0 : Int32))])) _
          refine XS.ifYes X19.here hx rfl (pc0 := 115) (pc' := 125) rfl (hb hby at_115) rfl ((if0 _ _).trans (teq (by decide : (0 : Int32) = (0 : Int32))).1) (by decide) (by decide) ?_
          show Steps p.tables e below (T19.setTop (mkF m 125 #[.val (.int p0), .val (.int p1), .val (.int p2), .val (.int p3), .val (.int (Int32.ofNat sz)), .val (.ref b1), .val (.int (1 : Int32)), .val (.int (Int32.ofNat i)), .val (.int (Int32.ofNat j)), .val (.int (0 : Int32)), .unset] [])) _
          refine XS.iinc X19.here hx rfl (hb hby at_125) rfl (l' := #[.val (.int p0), .val (.int p1), .val (.int p2), .val (.int p3), .val (.int (Int32.ofNat sz)), .val (.ref b1), .val (.int (1 : Int32)), .val (.int (Int32.ofNat i)), .val (.int (Int32.ofNat j)), .val (.int ((0 : Int32) + (1 : Int32))), .unset]) rfl ?_
          show Steps p.tables e below (T19.setTop (mkF m 128 #[.val (.int p0), .val (.int p1), .val (.int p2), .val (.int p3), .val (.int (Int32.ofNat sz)), .val (.ref b1), .val (.int (1 : Int32)), .val (.int (Int32.ofNat i)), .val (.int (Int32.ofNat j)), .val (.int ((0 : Int32) + (1 : Int32))), .unset] [])) _
          refine XS.iload X19.here hx rfl (hb hby at_128) rfl ?_
          show Steps p.tables e below (T19.setTop (mkF m 130 #[.val (.int p0), .val (.int p1), .val (.int p2), .val (.int p3), .val (.int (Int32.ofNat sz)), .val (.ref b1), .val (.int (1 : Int32)), .val (.int (Int32.ofNat i)), .val (.int (Int32.ofNat j)), .val (.int ((0 : Int32) + (1 : Int32))), .unset] [(.int (1 : Int32))])) _
          refine XS.ifNo X19.here hx rfl (hb hby at_130) rfl ((if0 _ _).trans (feq (by decide : ¬ ((1 : Int32) = (0 : Int32)))).1) ?_
          show Steps p.tables e below (T19.setTop (mkF m 133 #[.val (.int p0), .val (.int p1), .val (.int p2), .val (.int p3), .val (.int (Int32.ofNat sz)), .val (.ref b1), .val (.int (1 : Int32)), .val (.int (Int32.ofNat i)), .val (.int (Int32.ofNat j)), .val (.int ((0 : Int32) + (1 : Int32))), .unset] [])) _
          refine XS.aload X19.here hx rfl (hb hby at_133) rfl rfl ?_
          show Steps p.tables e below (T19.setTop (mkF m 135 #[.val (.int p0), .val (.int p1), .val (.int p2), .val (.int p3), .val (.int (Int32.ofNat sz)), .val (.ref b1), .val (.int (1 : Int32)), .val (.int (Int32.ofNat i)), .val (.int (Int32.ofNat j)), .val (.int ((0 : Int32) + (1 : Int32))), .unset] [(.ref b1)])) _
          refine st20.trans ?_
          show Steps p.tables e below (T20.setTop (mkF m 138 #[.val (.int p0), .val (.int p1), .val (.int p2), .val (.int p3), .val (.int (Int32.ofNat sz)), .val (.ref b1), .val (.int (1 : Int32)), .val (.int (Int32.ofNat i)), .val (.int (Int32.ofNat j)), .val (.int ((0 : Int32) + (1 : Int32))), .unset] [(.int (0 : Int32))])) _
          refine XS.ifNo X20.here hx rfl (hb hby at_138) rfl ((if0 _ _).trans (teq (by decide : (0 : Int32) = (0 : Int32))).2) ?_
          show Steps p.tables e below (T20.setTop (mkF m 141 #[.val (.int p0), .val (.int p1), .val (.int p2), .val (.int p3), .val (.int (Int32.ofNat sz)), .val (.ref b1), .val (.int (1 : Int32)), .val (.int (Int32.ofNat i)), .val (.int (Int32.ofNat j)), .val (.int ((0 : Int32) + (1 : Int32))), .unset] [])) _
          refine XS.iconst X20.here hx rfl (hb hby at_141) ?_
          show Steps p.tables e below (T20.setTop (mkF m 142 #[.val (.int p0), .val (.int p1), .val (.int p2), .val (.int p3), .val (.int (Int32.ofNat sz)), .val (.ref b1), .val (.int (1 : Int32)), .val (.int (Int32.ofNat i)), .val (.int (Int32.ofNat j)), .val (.int ((0 : Int32) + (1 : Int32))), .unset] [(.int (1 : Int32))])) _
          refine XS.goto X20.here hx rfl (pc0 := 142) (pc' := 146) rfl (hb hby at_142) (by decide) (by decide) ?_
          show Steps p.tables e below (T20.setTop (mkF m 146 #[.val (.int p0), .val (.int p1), .val (.int p2), .val (.int p3), .val (.int (Int32.ofNat sz)), .val (.ref b1), .val (.int (1 : Int32)), .val (.int (Int32.ofNat i)), .val (.int (Int32.ofNat j)), .val (.int ((0 : Int32) + (1 : Int32))), .unset] [(.int (1 : Int32))])) _
          refine XS.istore X20.here hx rfl (hb hby at_146) rfl (l' := #[.val (.int p0), .val (.int p1), .val (.int p2), .val (.int p3), .val (.int (Int32.ofNat sz)), .val (.ref b1), .val (.int (1 : Int32)), .val (.int (Int32.ofNat i)), .val (.int (Int32.ofNat j)), .val (.int ((0 : Int32) + (1 : Int32))), .unset]) rfl ?_
          show Steps p.tables e below (T20.setTop (mkF m 148 #[.val (.int p0), .val (.int p1), .val (.int p2), .val (.int p3), .val (.int (Int32.ofNat sz)), .val (.ref b1), .val (.int (1 : Int32)), .val (.int (Int32.ofNat i)), .val (.int (Int32.ofNat j)), .val (.int ((0 : Int32) + (1 : Int32))), .unset] [])) _
          refine XS.iloadN X20.here hx rfl (hb hby at_148) rfl ?_
          show Steps p.tables e below (T20.setTop (mkF m 149 #[.val (.int p0), .val (.int p1), .val (.int p2), .val (.int p3), .val (.int (Int32.ofNat sz)), .val (.ref b1), .val (.int (1 : Int32)), .val (.int (Int32.ofNat i)), .val (.int (Int32.ofNat j)), .val (.int ((0 : Int32) + (1 : Int32))), .unset] [(.int p3)])) _
          refine XS.iconst X20.here hx rfl (hb hby at_149) ?_
          show Steps p.tables e below (T20.setTop (mkF m 150 #[.val (.int p0), .val (.int p1), .val (.int p2), .val (.int p3), .val (.int (Int32.ofNat sz)), .val (.ref b1), .val (.int (1 : Int32)), .val (.int (Int32.ofNat i)), .val (.int (Int32.ofNat j)), .val (.int ((0 : Int32) + (1 : Int32))), .unset] [(.int (3 : Int32)), (.int p3)])) _
          refine XS.iushr X20.here hx rfl (hb hby at_150) rfl ?_
          show Steps p.tables e below (T20.setTop (mkF m 151 #[.val (.int p0), .val (.int p1), .val (.int p2), .val (.int p3), .val (.int (Int32.ofNat sz)), .val (.ref b1), .val (.int (1 : Int32)), .val (.int (Int32.ofNat i)), .val (.int (Int32.ofNat j)), .val (.int ((0 : Int32) + (1 : Int32))), .unset] [(.int ((p3.toUInt32 >>> ((3 : Int32) &&& 31).toUInt32).toInt32))])) _
          refine XS.iconst X20.here hx rfl (hb hby at_151) ?_
          show Steps p.tables e below (T20.setTop (mkF m 152 #[.val (.int p0), .val (.int p1), .val (.int p2), .val (.int p3), .val (.int (Int32.ofNat sz)), .val (.ref b1), .val (.int (1 : Int32)), .val (.int (Int32.ofNat i)), .val (.int (Int32.ofNat j)), .val (.int ((0 : Int32) + (1 : Int32))), .unset] [(.int (3 : Int32)), (.int ((p3.toUInt32 >>> ((3 : Int32) &&& 31).toUInt32).toInt32))])) _
          refine XS.iand X20.here hx rfl (hb hby at_152) rfl ?_
          show Steps p.tables e below (T20.setTop (mkF m 153 #[.val (.int p0), .val (.int p1), .val (.int p2), .val (.int p3), .val (.int (Int32.ofNat sz)), .val (.ref b1), .val (.int (1 : Int32)), .val (.int (Int32.ofNat i)), .val (.int (Int32.ofNat j)), .val (.int ((0 : Int32) + (1 : Int32))), .unset] [(.int (((p3.toUInt32 >>> ((3 : Int32) &&& 31).toUInt32).toInt32) &&& (3 : Int32)))])) _
          refine XS.istore X20.here hx rfl (hb hby at_153) rfl (l' := #[.val (.int p0), .val (.int p1), .val (.int p2), .val (.int p3), .val (.int (Int32.ofNat sz)), .val (.ref b1), .val (.int (1 : Int32)), .val (.int (Int32.ofNat i)), .val (.int (Int32.ofNat j)), .val (.int ((0 : Int32) + (1 : Int32))), .val (.int (((p3.toUInt32 >>> ((3 : Int32) &&& 31).toUInt32).toInt32) &&& (3 : Int32)))]) rfl ?_
          show Steps p.tables e below (T20.setTop (mkF m 155 #[.val (.int p0), .val (.int p1), .val (.int p2), .val (.int p3), .val (.int (Int32.ofNat sz)), .val (.ref b1), .val (.int (1 : Int32)), .val (.int (Int32.ofNat i)), .val (.int (Int32.ofNat j)), .val (.int ((0 : Int32) + (1 : Int32))), .val (.int (((p3.toUInt32 >>> ((3 : Int32) &&& 31).toUInt32).toInt32) &&& (3 : Int32)))] [])) _
          refine XS.iload X20.here hx rfl (hb hby at_155) rfl ?_
          show Steps p.tables e below (T20.setTop (mkF m 157 #[.val (.int p0), .val (.int p1), .val (.int p2), .val (.int p3), .val (.int (Int32.ofNat sz)), .val (.ref b1), .val (.int (1 : Int32)), .val (.int (Int32.ofNat i)), .val (.int (Int32.ofNat j)), .val (.int ((0 : Int32) + (1 : Int32))), .val (.int (((p3.toUInt32 >>> ((3 : Int32) &&& 31).toUInt32).toInt32) &&& (3 : Int32)))] [(.int (((p3.toUInt32 >>> ((3 : Int32) &&& 31).toUInt32).toInt32) &&& (3 : Int32)))])) _
          refine XS.iconst X20.here hx rfl (hb hby at_157) ?_
          exact kt
        by_cases hc22 : (((p3.toUInt32 >>> ((3 : Int32) &&& 31).toUInt32).toInt32) &&& (3 : Int32)) < (1 : Int32)
        · skip
          have pre23 : ∀ t, Steps p.tables e below (T20.setTop (mkF m 208 #[.val (.int p0), .val (.int p1), .val (.int p2), .val (.int p3), .val (.int (Int32.ofNat sz)), .val (.ref b1), .val (.int (1 : Int32)), .val (.int (Int32.ofNat i)), .val (.int (Int32.ofNat j)), .val (.int ((0 : Int32) + (1 : Int32))), .val (.int (((p3.toUInt32 >>> ((3 : Int32) &&& 31).toUInt32).toInt32) &&& (3 : Int32)))] [(.int (2 : Int32)), (.int (((p3.toUInt32 >>> ((3 : Int32) &&& 31).toUInt32).toInt32) &&& (3 : Int32)))])) t → Steps p.tables e below (s₁.setTop (entryFrame m #[(.int p0), (.int p1), (.int p2), (.int p3)] maxLocals)) t := by
            intro t kt
            refine pre21 t ?_
            show Steps p.tables e below (T20.setTop (mkF m 158 #[.val (.int p0), .val (.int p1), .val (.int p2), .val (.int p3), .val (.int (Int32.ofNat sz)), .val (.ref b1), .val (.int (1 : Int32)), .val (.int (Int32.ofNat i)), .val (.int (Int32.ofNat j)), .val (.int ((0 : Int32) + (1 : Int32))), .val (.int (((p3.toUInt32 >>> ((3 : Int32) &&& 31).toUInt32).toInt32) &&& (3 : Int32)))] [(.int (1 : Int32)), (.int (((p3.toUInt32 >>> ((3 : Int32) &&& 31).toUInt32).toInt32) &&& (3 : Int32)))])) _
            refine XS.icmpYes X20.here hx rfl (pc0 := 158) (pc' := 205) rfl (hb hby at_158) rfl (tlt hc22).1 (by decide) (by decide) ?_
            show Steps p.tables e below (T20.setTop (mkF m 205 #[.val (.int p0), .val (.int p1), .val (.int p2), .val (.int p3), .val (.int (Int32.ofNat sz)), .val (.ref b1), .val (.int (1 : Int32)), .val (.int (Int32.ofNat i)), .val (.int (Int32.ofNat j)), .val (.int ((0 : Int32) + (1 : Int32))), .val (.int (((p3.toUInt32 >>> ((3 : Int32) &&& 31).toUInt32).toInt32) &&& (3 : Int32)))] [])) _
            refine XS.iload X20.here hx rfl (hb hby at_205) rfl ?_
            show Steps p.tables e below (T20.setTop (mkF m 207 #[.val (.int p0), .val (.int p1), .val (.int p2), .val (.int p3), .val (.int (Int32.ofNat sz)), .val (.ref b1), .val (.int (1 : Int32)), .val (.int (Int32.ofNat i)), .val (.int (Int32.ofNat j)), .val (.int ((0 : Int32) + (1 : Int32))), .val (.int (((p3.toUInt32 >>> ((3 : Int32) &&& 31).toUInt32).toInt32) &&& (3 : Int32)))] [(.int (((p3.toUInt32 >>> ((3 : Int32) &&& 31).toUInt32).toInt32) &&& (3 : Int32)))])) _
            refine XS.iconst X20.here hx rfl (hb hby at_207) ?_
            exact kt
          by_cases hc24 : (((p3.toUInt32 >>> ((3 : Int32) &&& 31).toUInt32).toInt32) &&& (3 : Int32)) < (2 : Int32)
          · skip
            obtain ⟨fs, hr, hrun, hended, hW, hsame⟩ := X20.leave (v := some (.int (1 : Int32))) (fun h => by rw [Bd.returns] at h; cases h)
            refine ⟨_, _, pre23 _ ?_, hrun, hended, _, _, rfl, ?_, ⟨_, rfl⟩, hW, hsame.mono (by decide) (by decide)⟩
            · skip
              show Steps p.tables e below (T20.setTop (mkF m 208 #[.val (.int p0), .val (.int p1), .val (.int p2), .val (.int p3), .val (.int (Int32.ofNat sz)), .val (.ref b1), .val (.int (1 : Int32)), .val (.int (Int32.ofNat i)), .val (.int (Int32.ofNat j)), .val (.int ((0 : Int32) + (1 : Int32))), .val (.int (((p3.toUInt32 >>> ((3 : Int32) &&& 31).toUInt32).toInt32) &&& (3 : Int32)))] [(.int (2 : Int32)), (.int (((p3.toUInt32 >>> ((3 : Int32) &&& 31).toUInt32).toInt32) &&& (3 : Int32)))])) _
              refine XS.icmpYes X20.here hx rfl (pc0 := 208) (pc' := 255) rfl (hb hby at_208) rfl (tlt hc24).1 (by decide) (by decide) ?_
              show Steps p.tables e below (T20.setTop (mkF m 255 #[.val (.int p0), .val (.int p1), .val (.int p2), .val (.int p3), .val (.int (Int32.ofNat sz)), .val (.ref b1), .val (.int (1 : Int32)), .val (.int (Int32.ofNat i)), .val (.int (Int32.ofNat j)), .val (.int ((0 : Int32) + (1 : Int32))), .val (.int (((p3.toUInt32 >>> ((3 : Int32) &&& 31).toUInt32).toInt32) &&& (3 : Int32)))] [])) _
              refine XS.iload X20.here hx rfl (hb hby at_255) rfl ?_
              show Steps p.tables e below (T20.setTop (mkF m 257 #[.val (.int p0), .val (.int p1), .val (.int p2), .val (.int p3), .val (.int (Int32.ofNat sz)), .val (.ref b1), .val (.int (1 : Int32)), .val (.int (Int32.ofNat i)), .val (.int (Int32.ofNat j)), .val (.int ((0 : Int32) + (1 : Int32))), .val (.int (((p3.toUInt32 >>> ((3 : Int32) &&& 31).toUInt32).toInt32) &&& (3 : Int32)))] [(.int (1 : Int32))])) _
              exact retN X20 hx (t := .boolean) Bd.returns (by simp) (hb hby at_257) hr
            · exact ⟨(by first | rfl | simp [hc5, hc10, hc12, hc22, hc24]), N20⟩
          · skip
            obtain ⟨cq25, kq25, q25a, q25b, q25c⟩ := isOf hZ e20 Ex19
            obtain ⟨_, _, ⟨T25, L25, k25, n25⟩, -, X25, ⟨Lc25, hQ25, l25, y25, z25⟩, st25⟩ := X20.virtualBack hx (y := (⟨"com/example/halfword/halfword/verify/RoundRobinSet", "take", "()I"⟩ : MethodName)) (z := (⟨"com/example/halfword/halfword/verify/RoundRobinSet", "take", "()I"⟩ : MethodName)) hown (mvT hZ (hw _ (List.mem_of_getElem? (i := 45) rfl))) (mvT hZ (hw _ (List.mem_of_getElem? (i := 46) rfl))) (notFace_of_selects (args := #[]) (mvT hZ (hw _ (List.mem_of_getElem? (i := 48) rfl)))) (mvT hZ (hw _ (List.mem_of_getElem? (i := 48) rfl))) (mvT hZ (hw _ (List.mem_of_getElem? (i := 47) rfl))) (by decide) (backOf (W := 0) (rTk l Z a0 hw [] b1 sz 0 (Ad (fun _ => False) j) T19.heap n0 (Rr19.le) Rr19 (Cnt.some (c := 0) (Cnt.add0 Cnt.zero j))) hZ (hw _ (List.mem_of_getElem? (i := 49) rfl)) (hw _ (List.mem_of_getElem? (i := 3) rfl)) (by decide) (by decide)) q25a q25c (g := (mkF m 218 #[.val (.int p0), .val (.int p1), .val (.int p2), .val (.int p3), .val (.int (Int32.ofNat sz)), .val (.ref b1), .val (.int (1 : Int32)), .val (.int (Int32.ofNat i)), .val (.int (Int32.ofNat j)), .val (.int ((0 : Int32) + (1 : Int32))), .val (.int (((p3.toUInt32 >>> ((3 : Int32) &&& 31).toUInt32).toInt32) &&& (3 : Int32)))] [(.ref b1)])) rfl (by rw [hml]; rfl) (Steps.refl _) (argsL := []) (rest := []) (lenOf pd___I rfl) rfl (by show 2 * 0 + _ ≤ _; exact Nat.le_of_eq rfl) (hb hby at_218) (fun _ _ => ⟨rfl, e20, (by decide : 6 + 0 ≤ _), (by decide : 17415 + 0 ≤ _)⟩)
            dsimp only [Pt.U, Pt.locs, Pt.cells, Pt.slots] at X25 l25 y25 z25 st25 hQ25
            rw [l25, y25, z25] at X25
            obtain ⟨x25, zz25, rfl, N25q, hMx25, Rr25⟩ := hQ25
            have N25 := Fr.app N20 N25q
            have Ex25 := Rr25.ex
            obtain ⟨cq26, kq26, q26a, q26b, q26c⟩ := isOf hZ rfl Ex25
            obtain ⟨_, _, ⟨T26, L26, k26, n26⟩, -, X26, ⟨Lc26, hQ26, l26, y26, z26⟩, st26⟩ := X25.virtualBack hx (y := (⟨"com/example/halfword/halfword/verify/RoundRobinSet", "isEmpty", "()Z"⟩ : MethodName)) (z := (⟨"com/example/halfword/halfword/verify/RoundRobinSet", "isEmpty", "()Z"⟩ : MethodName)) hown (mvT hZ (hw _ (List.mem_of_getElem? (i := 26) rfl))) (mvT hZ (hw _ (List.mem_of_getElem? (i := 27) rfl))) (notFace_of_selects (args := #[]) (mvT hZ (hw _ (List.mem_of_getElem? (i := 29) rfl)))) (mvT hZ (hw _ (List.mem_of_getElem? (i := 29) rfl))) (mvT hZ (hw _ (List.mem_of_getElem? (i := 28) rfl))) (by decide) (backOf (W := 0) (rEm l Z a0 hw [] b1 sz (x25 + 1) (Rm (Ad (fun _ => False) j) x25) (1 : Int32) T25.heap n0 (Rr25.le) Rr25 (Or.inl ⟨rfl, (Cnt.rm (c := 0) (Cnt.add0 Cnt.zero j) hMx25)⟩)) hZ (hw _ (List.mem_of_getElem? (i := 30) rfl)) (hw _ (List.mem_of_getElem? (i := 3) rfl)) (by decide) (by decide)) q26a q26c (g := (mkF m 232 #[.val (.int p0), .val (.int p1), .val (.int p2), .val (.int p3), .val (.int (Int32.ofNat sz)), .val (.ref b1), .val (.int (1 : Int32)), .val (.int (Int32.ofNat i)), .val (.int (Int32.ofNat j)), .val (.int (((0 : Int32) + (1 : Int32)) + (-1 : Int32))), .val (.int (((p3.toUInt32 >>> ((3 : Int32) &&& 31).toUInt32).toInt32) &&& (3 : Int32)))] [(.ref b1)])) rfl (by rw [hml]; rfl) (Steps.refl _) (argsL := []) (rest := []) (lenOf pd___Z rfl) rfl (by show 2 * 0 + _ ≤ _; exact Nat.le_of_eq rfl) (hb hby at_232) (fun _ _ => ⟨rfl, rfl, (by decide : 6 + 0 ≤ _), (by decide : 17415 + 0 ≤ _)⟩)
            dsimp only [Pt.U, Pt.locs, Pt.cells, Pt.slots] at X26 l26 y26 z26 st26 hQ26
            rw [l26, y26, z26] at X26
            obtain ⟨rfl, N26q, e26⟩ := hQ26
            have N26 := Fr.app N25 N26q
            obtain ⟨fs, hr, hrun, hended, hW, hsame⟩ := X26.leave (v := some (.int (1 : Int32))) (fun h => by rw [Bd.returns] at h; cases h)
            refine ⟨_, _, pre23 _ ?_, hrun, hended, _, _, rfl, ?_, ⟨_, rfl⟩, hW, hsame.mono (by decide) (by decide)⟩
            · skip
              show Steps p.tables e below (T20.setTop (mkF m 208 #[.val (.int p0), .val (.int p1), .val (.int p2), .val (.int p3), .val (.int (Int32.ofNat sz)), .val (.ref b1), .val (.int (1 : Int32)), .val (.int (Int32.ofNat i)), .val (.int (Int32.ofNat j)), .val (.int ((0 : Int32) + (1 : Int32))), .val (.int (((p3.toUInt32 >>> ((3 : Int32) &&& 31).toUInt32).toInt32) &&& (3 : Int32)))] [(.int (2 : Int32)), (.int (((p3.toUInt32 >>> ((3 : Int32) &&& 31).toUInt32).toInt32) &&& (3 : Int32)))])) _
              refine XS.icmpNo X20.here hx rfl (hb hby at_208) rfl (flt hc24).1 ?_
              show Steps p.tables e below (T20.setTop (mkF m 211 #[.val (.int p0), .val (.int p1), .val (.int p2), .val (.int p3), .val (.int (Int32.ofNat sz)), .val (.ref b1), .val (.int (1 : Int32)), .val (.int (Int32.ofNat i)), .val (.int (Int32.ofNat j)), .val (.int ((0 : Int32) + (1 : Int32))), .val (.int (((p3.toUInt32 >>> ((3 : Int32) &&& 31).toUInt32).toInt32) &&& (3 : Int32)))] [])) _
              refine XS.iload X20.here hx rfl (hb hby at_211) rfl ?_
              show Steps p.tables e below (T20.setTop (mkF m 213 #[.val (.int p0), .val (.int p1), .val (.int p2), .val (.int p3), .val (.int (Int32.ofNat sz)), .val (.ref b1), .val (.int (1 : Int32)), .val (.int (Int32.ofNat i)), .val (.int (Int32.ofNat j)), .val (.int ((0 : Int32) + (1 : Int32))), .val (.int (((p3.toUInt32 >>> ((3 : Int32) &&& 31).toUInt32).toInt32) &&& (3 : Int32)))] [(.int ((0 : Int32) + (1 : Int32)))])) _
              refine XS.ifNo X20.here hx rfl (hb hby at_213) rfl ((if0 _ _).trans (tlt (by decide)).2.2.2) ?_
              show Steps p.tables e below (T20.setTop (mkF m 216 #[.val (.int p0), .val (.int p1), .val (.int p2), .val (.int p3), .val (.int (Int32.ofNat sz)), .val (.ref b1), .val (.int (1 : Int32)), .val (.int (Int32.ofNat i)), .val (.int (Int32.ofNat j)), .val (.int ((0 : Int32) + (1 : Int32))), .val (.int (((p3.toUInt32 >>> ((3 : Int32) &&& 31).toUInt32).toInt32) &&& (3 : Int32)))] [])) _
              refine XS.aload X20.here hx rfl (hb hby at_216) rfl rfl ?_
              show Steps p.tables e below (T20.setTop (mkF m 218 #[.val (.int p0), .val (.int p1), .val (.int p2), .val (.int p3), .val (.int (Int32.ofNat sz)), .val (.ref b1), .val (.int (1 : Int32)), .val (.int (Int32.ofNat i)), .val (.int (Int32.ofNat j)), .val (.int ((0 : Int32) + (1 : Int32))), .val (.int (((p3.toUInt32 >>> ((3 : Int32) &&& 31).toUInt32).toInt32) &&& (3 : Int32)))] [(.ref b1)])) _
              refine st25.trans ?_
              show Steps p.tables e below (T25.setTop (mkF m 221 #[.val (.int p0), .val (.int p1), .val (.int p2), .val (.int p3), .val (.int (Int32.ofNat sz)), .val (.ref b1), .val (.int (1 : Int32)), .val (.int (Int32.ofNat i)), .val (.int (Int32.ofNat j)), .val (.int ((0 : Int32) + (1 : Int32))), .val (.int (((p3.toUInt32 >>> ((3 : Int32) &&& 31).toUInt32).toInt32) &&& (3 : Int32)))] [(.int zz25)])) _
              refine XS.pop X25.here hx rfl (hb hby at_221) rfl rfl ?_
              show Steps p.tables e below (T25.setTop (mkF m 222 #[.val (.int p0), .val (.int p1), .val (.int p2), .val (.int p3), .val (.int (Int32.ofNat sz)), .val (.ref b1), .val (.int (1 : Int32)), .val (.int (Int32.ofNat i)), .val (.int (Int32.ofNat j)), .val (.int ((0 : Int32) + (1 : Int32))), .val (.int (((p3.toUInt32 >>> ((3 : Int32) &&& 31).toUInt32).toInt32) &&& (3 : Int32)))] [])) _
              refine XS.iinc X25.here hx rfl (hb hby at_222) rfl (l' := #[.val (.int p0), .val (.int p1), .val (.int p2), .val (.int p3), .val (.int (Int32.ofNat sz)), .val (.ref b1), .val (.int (1 : Int32)), .val (.int (Int32.ofNat i)), .val (.int (Int32.ofNat j)), .val (.int (((0 : Int32) + (1 : Int32)) + (-1 : Int32))), .val (.int (((p3.toUInt32 >>> ((3 : Int32) &&& 31).toUInt32).toInt32) &&& (3 : Int32)))]) rfl ?_
              show Steps p.tables e below (T25.setTop (mkF m 225 #[.val (.int p0), .val (.int p1), .val (.int p2), .val (.int p3), .val (.int (Int32.ofNat sz)), .val (.ref b1), .val (.int (1 : Int32)), .val (.int (Int32.ofNat i)), .val (.int (Int32.ofNat j)), .val (.int (((0 : Int32) + (1 : Int32)) + (-1 : Int32))), .val (.int (((p3.toUInt32 >>> ((3 : Int32) &&& 31).toUInt32).toInt32) &&& (3 : Int32)))] [])) _
              refine XS.iload X25.here hx rfl (hb hby at_225) rfl ?_
              show Steps p.tables e below (T25.setTop (mkF m 227 #[.val (.int p0), .val (.int p1), .val (.int p2), .val (.int p3), .val (.int (Int32.ofNat sz)), .val (.ref b1), .val (.int (1 : Int32)), .val (.int (Int32.ofNat i)), .val (.int (Int32.ofNat j)), .val (.int (((0 : Int32) + (1 : Int32)) + (-1 : Int32))), .val (.int (((p3.toUInt32 >>> ((3 : Int32) &&& 31).toUInt32).toInt32) &&& (3 : Int32)))] [(.int (1 : Int32))])) _
              refine XS.ifNo X25.here hx rfl (hb hby at_227) rfl ((if0 _ _).trans (feq (by decide : ¬ ((1 : Int32) = (0 : Int32)))).1) ?_
              show Steps p.tables e below (T25.setTop (mkF m 230 #[.val (.int p0), .val (.int p1), .val (.int p2), .val (.int p3), .val (.int (Int32.ofNat sz)), .val (.ref b1), .val (.int (1 : Int32)), .val (.int (Int32.ofNat i)), .val (.int (Int32.ofNat j)), .val (.int (((0 : Int32) + (1 : Int32)) + (-1 : Int32))), .val (.int (((p3.toUInt32 >>> ((3 : Int32) &&& 31).toUInt32).toInt32) &&& (3 : Int32)))] [])) _
              refine XS.aload X25.here hx rfl (hb hby at_230) rfl rfl ?_
              show Steps p.tables e below (T25.setTop (mkF m 232 #[.val (.int p0), .val (.int p1), .val (.int p2), .val (.int p3), .val (.int (Int32.ofNat sz)), .val (.ref b1), .val (.int (1 : Int32)), .val (.int (Int32.ofNat i)), .val (.int (Int32.ofNat j)), .val (.int (((0 : Int32) + (1 : Int32)) + (-1 : Int32))), .val (.int (((p3.toUInt32 >>> ((3 : Int32) &&& 31).toUInt32).toInt32) &&& (3 : Int32)))] [(.ref b1)])) _
              refine st26.trans ?_
              show Steps p.tables e below (T26.setTop (mkF m 235 #[.val (.int p0), .val (.int p1), .val (.int p2), .val (.int p3), .val (.int (Int32.ofNat sz)), .val (.ref b1), .val (.int (1 : Int32)), .val (.int (Int32.ofNat i)), .val (.int (Int32.ofNat j)), .val (.int (((0 : Int32) + (1 : Int32)) + (-1 : Int32))), .val (.int (((p3.toUInt32 >>> ((3 : Int32) &&& 31).toUInt32).toInt32) &&& (3 : Int32)))] [(.int (1 : Int32))])) _
              refine XS.iload X26.here hx rfl (hb hby at_235) rfl ?_
              show Steps p.tables e below (T26.setTop (mkF m 237 #[.val (.int p0), .val (.int p1), .val (.int p2), .val (.int p3), .val (.int (Int32.ofNat sz)), .val (.ref b1), .val (.int (1 : Int32)), .val (.int (Int32.ofNat i)), .val (.int (Int32.ofNat j)), .val (.int (((0 : Int32) + (1 : Int32)) + (-1 : Int32))), .val (.int (((p3.toUInt32 >>> ((3 : Int32) &&& 31).toUInt32).toInt32) &&& (3 : Int32)))] [(.int (((0 : Int32) + (1 : Int32)) + (-1 : Int32))), (.int (1 : Int32))])) _
              refine XS.ifNo X26.here hx rfl (hb hby at_237) rfl ((if0 _ _).trans (teq (by decide)).2) ?_
              show Steps p.tables e below (T26.setTop (mkF m 240 #[.val (.int p0), .val (.int p1), .val (.int p2), .val (.int p3), .val (.int (Int32.ofNat sz)), .val (.ref b1), .val (.int (1 : Int32)), .val (.int (Int32.ofNat i)), .val (.int (Int32.ofNat j)), .val (.int (((0 : Int32) + (1 : Int32)) + (-1 : Int32))), .val (.int (((p3.toUInt32 >>> ((3 : Int32) &&& 31).toUInt32).toInt32) &&& (3 : Int32)))] [(.int (1 : Int32))])) _
              refine XS.iconst X26.here hx rfl (hb hby at_240) ?_
              show Steps p.tables e below (T26.setTop (mkF m 241 #[.val (.int p0), .val (.int p1), .val (.int p2), .val (.int p3), .val (.int (Int32.ofNat sz)), .val (.ref b1), .val (.int (1 : Int32)), .val (.int (Int32.ofNat i)), .val (.int (Int32.ofNat j)), .val (.int (((0 : Int32) + (1 : Int32)) + (-1 : Int32))), .val (.int (((p3.toUInt32 >>> ((3 : Int32) &&& 31).toUInt32).toInt32) &&& (3 : Int32)))] [(.int (1 : Int32)), (.int (1 : Int32))])) _
              refine XS.goto X26.here hx rfl (pc0 := 241) (pc' := 245) rfl (hb hby at_241) (by decide) (by decide) ?_
              show Steps p.tables e below (T26.setTop (mkF m 245 #[.val (.int p0), .val (.int p1), .val (.int p2), .val (.int p3), .val (.int (Int32.ofNat sz)), .val (.ref b1), .val (.int (1 : Int32)), .val (.int (Int32.ofNat i)), .val (.int (Int32.ofNat j)), .val (.int (((0 : Int32) + (1 : Int32)) + (-1 : Int32))), .val (.int (((p3.toUInt32 >>> ((3 : Int32) &&& 31).toUInt32).toInt32) &&& (3 : Int32)))] [(.int (1 : Int32)), (.int (1 : Int32))])) _
              refine XS.icmpNo X26.here hx rfl (hb hby at_245) rfl (teq (by decide : (1 : Int32) = (1 : Int32))).2 ?_
              show Steps p.tables e below (T26.setTop (mkF m 248 #[.val (.int p0), .val (.int p1), .val (.int p2), .val (.int p3), .val (.int (Int32.ofNat sz)), .val (.ref b1), .val (.int (1 : Int32)), .val (.int (Int32.ofNat i)), .val (.int (Int32.ofNat j)), .val (.int (((0 : Int32) + (1 : Int32)) + (-1 : Int32))), .val (.int (((p3.toUInt32 >>> ((3 : Int32) &&& 31).toUInt32).toInt32) &&& (3 : Int32)))] [])) _
              refine XS.iconst X26.here hx rfl (hb hby at_248) ?_
              show Steps p.tables e below (T26.setTop (mkF m 249 #[.val (.int p0), .val (.int p1), .val (.int p2), .val (.int p3), .val (.int (Int32.ofNat sz)), .val (.ref b1), .val (.int (1 : Int32)), .val (.int (Int32.ofNat i)), .val (.int (Int32.ofNat j)), .val (.int (((0 : Int32) + (1 : Int32)) + (-1 : Int32))), .val (.int (((p3.toUInt32 >>> ((3 : Int32) &&& 31).toUInt32).toInt32) &&& (3 : Int32)))] [(.int (1 : Int32))])) _
              refine XS.goto X26.here hx rfl (pc0 := 249) (pc' := 253) rfl (hb hby at_249) (by decide) (by decide) ?_
              show Steps p.tables e below (T26.setTop (mkF m 253 #[.val (.int p0), .val (.int p1), .val (.int p2), .val (.int p3), .val (.int (Int32.ofNat sz)), .val (.ref b1), .val (.int (1 : Int32)), .val (.int (Int32.ofNat i)), .val (.int (Int32.ofNat j)), .val (.int (((0 : Int32) + (1 : Int32)) + (-1 : Int32))), .val (.int (((p3.toUInt32 >>> ((3 : Int32) &&& 31).toUInt32).toInt32) &&& (3 : Int32)))] [(.int (1 : Int32))])) _
              refine XS.istore X26.here hx rfl (hb hby at_253) rfl (l' := #[.val (.int p0), .val (.int p1), .val (.int p2), .val (.int p3), .val (.int (Int32.ofNat sz)), .val (.ref b1), .val (.int (1 : Int32)), .val (.int (Int32.ofNat i)), .val (.int (Int32.ofNat j)), .val (.int (((0 : Int32) + (1 : Int32)) + (-1 : Int32))), .val (.int (((p3.toUInt32 >>> ((3 : Int32) &&& 31).toUInt32).toInt32) &&& (3 : Int32)))]) rfl ?_
              show Steps p.tables e below (T26.setTop (mkF m 255 #[.val (.int p0), .val (.int p1), .val (.int p2), .val (.int p3), .val (.int (Int32.ofNat sz)), .val (.ref b1), .val (.int (1 : Int32)), .val (.int (Int32.ofNat i)), .val (.int (Int32.ofNat j)), .val (.int (((0 : Int32) + (1 : Int32)) + (-1 : Int32))), .val (.int (((p3.toUInt32 >>> ((3 : Int32) &&& 31).toUInt32).toInt32) &&& (3 : Int32)))] [])) _
              refine XS.iload X26.here hx rfl (hb hby at_255) rfl ?_
              show Steps p.tables e below (T26.setTop (mkF m 257 #[.val (.int p0), .val (.int p1), .val (.int p2), .val (.int p3), .val (.int (Int32.ofNat sz)), .val (.ref b1), .val (.int (1 : Int32)), .val (.int (Int32.ofNat i)), .val (.int (Int32.ofNat j)), .val (.int (((0 : Int32) + (1 : Int32)) + (-1 : Int32))), .val (.int (((p3.toUInt32 >>> ((3 : Int32) &&& 31).toUInt32).toInt32) &&& (3 : Int32)))] [(.int (1 : Int32))])) _
              exact retN X26 hx (t := .boolean) Bd.returns (by simp) (hb hby at_257) hr
            · exact ⟨(by first | rfl | simp [hc5, hc10, hc12, hc22, hc24]), N26⟩
        · skip
          obtain ⟨cq27, kq27, q27a, q27b, q27c⟩ := isOf hZ e20 Ex19
          obtain ⟨_, _, ⟨T27, L27, k27, n27⟩, -, X27, ⟨Lc27, hQ27, l27, y27, z27⟩, st27⟩ := X20.virtualBack hx (y := (⟨"com/example/halfword/halfword/verify/RoundRobinSet", "take", "()I"⟩ : MethodName)) (z := (⟨"com/example/halfword/halfword/verify/RoundRobinSet", "take", "()I"⟩ : MethodName)) hown (mvT hZ (hw _ (List.mem_of_getElem? (i := 45) rfl))) (mvT hZ (hw _ (List.mem_of_getElem? (i := 46) rfl))) (notFace_of_selects (args := #[]) (mvT hZ (hw _ (List.mem_of_getElem? (i := 48) rfl)))) (mvT hZ (hw _ (List.mem_of_getElem? (i := 48) rfl))) (mvT hZ (hw _ (List.mem_of_getElem? (i := 47) rfl))) (by decide) (backOf (W := 0) (rTk l Z a0 hw [] b1 sz 0 (Ad (fun _ => False) j) T19.heap n0 (Rr19.le) Rr19 (Cnt.some (c := 0) (Cnt.add0 Cnt.zero j))) hZ (hw _ (List.mem_of_getElem? (i := 49) rfl)) (hw _ (List.mem_of_getElem? (i := 3) rfl)) (by decide) (by decide)) q27a q27c (g := (mkF m 168 #[.val (.int p0), .val (.int p1), .val (.int p2), .val (.int p3), .val (.int (Int32.ofNat sz)), .val (.ref b1), .val (.int (1 : Int32)), .val (.int (Int32.ofNat i)), .val (.int (Int32.ofNat j)), .val (.int ((0 : Int32) + (1 : Int32))), .val (.int (((p3.toUInt32 >>> ((3 : Int32) &&& 31).toUInt32).toInt32) &&& (3 : Int32)))] [(.ref b1)])) rfl (by rw [hml]; rfl) (Steps.refl _) (argsL := []) (rest := []) (lenOf pd___I rfl) rfl (by show 2 * 0 + _ ≤ _; exact Nat.le_of_eq rfl) (hb hby at_168) (fun _ _ => ⟨rfl, e20, (by decide : 6 + 0 ≤ _), (by decide : 17415 + 0 ≤ _)⟩)
          dsimp only [Pt.U, Pt.locs, Pt.cells, Pt.slots] at X27 l27 y27 z27 st27 hQ27
          rw [l27, y27, z27] at X27
          obtain ⟨x27, zz27, rfl, N27q, hMx27, Rr27⟩ := hQ27
          have N27 := Fr.app N20 N27q
          have Ex27 := Rr27.ex
          obtain ⟨cq28, kq28, q28a, q28b, q28c⟩ := isOf hZ rfl Ex27
          obtain ⟨_, _, ⟨T28, L28, k28, n28⟩, -, X28, ⟨Lc28, hQ28, l28, y28, z28⟩, st28⟩ := X27.virtualBack hx (y := (⟨"com/example/halfword/halfword/verify/RoundRobinSet", "isEmpty", "()Z"⟩ : MethodName)) (z := (⟨"com/example/halfword/halfword/verify/RoundRobinSet", "isEmpty", "()Z"⟩ : MethodName)) hown (mvT hZ (hw _ (List.mem_of_getElem? (i := 26) rfl))) (mvT hZ (hw _ (List.mem_of_getElem? (i := 27) rfl))) (notFace_of_selects (args := #[]) (mvT hZ (hw _ (List.mem_of_getElem? (i := 29) rfl)))) (mvT hZ (hw _ (List.mem_of_getElem? (i := 29) rfl))) (mvT hZ (hw _ (List.mem_of_getElem? (i := 28) rfl))) (by decide) (backOf (W := 0) (rEm l Z a0 hw [] b1 sz (x27 + 1) (Rm (Ad (fun _ => False) j) x27) (1 : Int32) T27.heap n0 (Rr27.le) Rr27 (Or.inl ⟨rfl, (Cnt.rm (c := 0) (Cnt.add0 Cnt.zero j) hMx27)⟩)) hZ (hw _ (List.mem_of_getElem? (i := 30) rfl)) (hw _ (List.mem_of_getElem? (i := 3) rfl)) (by decide) (by decide)) q28a q28c (g := (mkF m 182 #[.val (.int p0), .val (.int p1), .val (.int p2), .val (.int p3), .val (.int (Int32.ofNat sz)), .val (.ref b1), .val (.int (1 : Int32)), .val (.int (Int32.ofNat i)), .val (.int (Int32.ofNat j)), .val (.int (((0 : Int32) + (1 : Int32)) + (-1 : Int32))), .val (.int (((p3.toUInt32 >>> ((3 : Int32) &&& 31).toUInt32).toInt32) &&& (3 : Int32)))] [(.ref b1)])) rfl (by rw [hml]; rfl) (Steps.refl _) (argsL := []) (rest := []) (lenOf pd___Z rfl) rfl (by show 2 * 0 + _ ≤ _; exact Nat.le_of_eq rfl) (hb hby at_182) (fun _ _ => ⟨rfl, rfl, (by decide : 6 + 0 ≤ _), (by decide : 17415 + 0 ≤ _)⟩)
          dsimp only [Pt.U, Pt.locs, Pt.cells, Pt.slots] at X28 l28 y28 z28 st28 hQ28
          rw [l28, y28, z28] at X28
          obtain ⟨rfl, N28q, e28⟩ := hQ28
          have N28 := Fr.app N27 N28q
          have pre29 : ∀ t, Steps p.tables e below (T28.setTop (mkF m 208 #[.val (.int p0), .val (.int p1), .val (.int p2), .val (.int p3), .val (.int (Int32.ofNat sz)), .val (.ref b1), .val (.int (1 : Int32)), .val (.int (Int32.ofNat i)), .val (.int (Int32.ofNat j)), .val (.int (((0 : Int32) + (1 : Int32)) + (-1 : Int32))), .val (.int (((p3.toUInt32 >>> ((3 : Int32) &&& 31).toUInt32).toInt32) &&& (3 : Int32)))] [(.int (2 : Int32)), (.int (((p3.toUInt32 >>> ((3 : Int32) &&& 31).toUInt32).toInt32) &&& (3 : Int32)))])) t → Steps p.tables e below (s₁.setTop (entryFrame m #[(.int p0), (.int p1), (.int p2), (.int p3)] maxLocals)) t := by
            intro t kt
            refine pre21 t ?_
            show Steps p.tables e below (T20.setTop (mkF m 158 #[.val (.int p0), .val (.int p1), .val (.int p2), .val (.int p3), .val (.int (Int32.ofNat sz)), .val (.ref b1), .val (.int (1 : Int32)), .val (.int (Int32.ofNat i)), .val (.int (Int32.ofNat j)), .val (.int ((0 : Int32) + (1 : Int32))), .val (.int (((p3.toUInt32 >>> ((3 : Int32) &&& 31).toUInt32).toInt32) &&& (3 : Int32)))] [(.int (1 : Int32)), (.int (((p3.toUInt32 >>> ((3 : Int32) &&& 31).toUInt32).toInt32) &&& (3 : Int32)))])) _
            refine XS.icmpNo X20.here hx rfl (hb hby at_158) rfl (flt hc22).1 ?_
            show Steps p.tables e below (T20.setTop (mkF m 161 #[.val (.int p0), .val (.int p1), .val (.int p2), .val (.int p3), .val (.int (Int32.ofNat sz)), .val (.ref b1), .val (.int (1 : Int32)), .val (.int (Int32.ofNat i)), .val (.int (Int32.ofNat j)), .val (.int ((0 : Int32) + (1 : Int32))), .val (.int (((p3.toUInt32 >>> ((3 : Int32) &&& 31).toUInt32).toInt32) &&& (3 : Int32)))] [])) _
            refine XS.iload X20.here hx rfl (hb hby at_161) rfl ?_
            show Steps p.tables e below (T20.setTop (mkF m 163 #[.val (.int p0), .val (.int p1), .val (.int p2), .val (.int p3), .val (.int (Int32.ofNat sz)), .val (.ref b1), .val (.int (1 : Int32)), .val (.int (Int32.ofNat i)), .val (.int (Int32.ofNat j)), .val (.int ((0 : Int32) + (1 : Int32))), .val (.int (((p3.toUInt32 >>> ((3 : Int32) &&& 31).toUInt32).toInt32) &&& (3 : Int32)))] [(.int ((0 : Int32) + (1 : Int32)))])) _
            refine XS.ifNo X20.here hx rfl (hb hby at_163) rfl ((if0 _ _).trans (tlt (by decide)).2.2.2) ?_
            show Steps p.tables e below (T20.setTop (mkF m 166 #[.val (.int p0), .val (.int p1), .val (.int p2), .val (.int p3), .val (.int (Int32.ofNat sz)), .val (.ref b1), .val (.int (1 : Int32)), .val (.int (Int32.ofNat i)), .val (.int (Int32.ofNat j)), .val (.int ((0 : Int32) + (1 : Int32))), .val (.int (((p3.toUInt32 >>> ((3 : Int32) &&& 31).toUInt32).toInt32) &&& (3 : Int32)))] [])) _
            refine XS.aload X20.here hx rfl (hb hby at_166) rfl rfl ?_
            show Steps p.tables e below (T20.setTop (mkF m 168 #[.val (.int p0), .val (.int p1), .val (.int p2), .val (.int p3), .val (.int (Int32.ofNat sz)), .val (.ref b1), .val (.int (1 : Int32)), .val (.int (Int32.ofNat i)), .val (.int (Int32.ofNat j)), .val (.int ((0 : Int32) + (1 : Int32))), .val (.int (((p3.toUInt32 >>> ((3 : Int32) &&& 31).toUInt32).toInt32) &&& (3 : Int32)))] [(.ref b1)])) _
            refine st27.trans ?_
            show Steps p.tables e below (T27.setTop (mkF m 171 #[.val (.int p0), .val (.int p1), .val (.int p2), .val (.int p3), .val (.int (Int32.ofNat sz)), .val (.ref b1), .val (.int (1 : Int32)), .val (.int (Int32.ofNat i)), .val (.int (Int32.ofNat j)), .val (.int ((0 : Int32) + (1 : Int32))), .val (.int (((p3.toUInt32 >>> ((3 : Int32) &&& 31).toUInt32).toInt32) &&& (3 : Int32)))] [(.int zz27)])) _
            refine XS.pop X27.here hx rfl (hb hby at_171) rfl rfl ?_
            show Steps p.tables e below (T27.setTop (mkF m 172 #[.val (.int p0), .val (.int p1), .val (.int p2), .val (.int p3), .val (.int (Int32.ofNat sz)), .val (.ref b1), .val (.int (1 : Int32)), .val (.int (Int32.ofNat i)), .val (.int (Int32.ofNat j)), .val (.int ((0 : Int32) + (1 : Int32))), .val (.int (((p3.toUInt32 >>> ((3 : Int32) &&& 31).toUInt32).toInt32) &&& (3 : Int32)))] [])) _
            refine XS.iinc X27.here hx rfl (hb hby at_172) rfl (l' := #[.val (.int p0), .val (.int p1), .val (.int p2), .val (.int p3), .val (.int (Int32.ofNat sz)), .val (.ref b1), .val (.int (1 : Int32)), .val (.int (Int32.ofNat i)), .val (.int (Int32.ofNat j)), .val (.int (((0 : Int32) + (1 : Int32)) + (-1 : Int32))), .val (.int (((p3.toUInt32 >>> ((3 : Int32) &&& 31).toUInt32).toInt32) &&& (3 : Int32)))]) rfl ?_
            show Steps p.tables e below (T27.setTop (mkF m 175 #[.val (.int p0), .val (.int p1), .val (.int p2), .val (.int p3), .val (.int (Int32.ofNat sz)), .val (.ref b1), .val (.int (1 : Int32)), .val (.int (Int32.ofNat i)), .val (.int (Int32.ofNat j)), .val (.int (((0 : Int32) + (1 : Int32)) + (-1 : Int32))), .val (.int (((p3.toUInt32 >>> ((3 : Int32) &&& 31).toUInt32).toInt32) &&& (3 : Int32)))] [])) _
            refine XS.iload X27.here hx rfl (hb hby at_175) rfl ?_
            show Steps p.tables e below (T27.setTop (mkF m 177 #[.val (.int p0), .val (.int p1), .val (.int p2), .val (.int p3), .val (.int (Int32.ofNat sz)), .val (.ref b1), .val (.int (1 : Int32)), .val (.int (Int32.ofNat i)), .val (.int (Int32.ofNat j)), .val (.int (((0 : Int32) + (1 : Int32)) + (-1 : Int32))), .val (.int (((p3.toUInt32 >>> ((3 : Int32) &&& 31).toUInt32).toInt32) &&& (3 : Int32)))] [(.int (1 : Int32))])) _
            refine XS.ifNo X27.here hx rfl (hb hby at_177) rfl ((if0 _ _).trans (feq (by decide : ¬ ((1 : Int32) = (0 : Int32)))).1) ?_
            show Steps p.tables e below (T27.setTop (mkF m 180 #[.val (.int p0), .val (.int p1), .val (.int p2), .val (.int p3), .val (.int (Int32.ofNat sz)), .val (.ref b1), .val (.int (1 : Int32)), .val (.int (Int32.ofNat i)), .val (.int (Int32.ofNat j)), .val (.int (((0 : Int32) + (1 : Int32)) + (-1 : Int32))), .val (.int (((p3.toUInt32 >>> ((3 : Int32) &&& 31).toUInt32).toInt32) &&& (3 : Int32)))] [])) _
            refine XS.aload X27.here hx rfl (hb hby at_180) rfl rfl ?_
            show Steps p.tables e below (T27.setTop (mkF m 182 #[.val (.int p0), .val (.int p1), .val (.int p2), .val (.int p3), .val (.int (Int32.ofNat sz)), .val (.ref b1), .val (.int (1 : Int32)), .val (.int (Int32.ofNat i)), .val (.int (Int32.ofNat j)), .val (.int (((0 : Int32) + (1 : Int32)) + (-1 : Int32))), .val (.int (((p3.toUInt32 >>> ((3 : Int32) &&& 31).toUInt32).toInt32) &&& (3 : Int32)))] [(.ref b1)])) _
            refine st28.trans ?_
            show Steps p.tables e below (T28.setTop (mkF m 185 #[.val (.int p0), .val (.int p1), .val (.int p2), .val (.int p3), .val (.int (Int32.ofNat sz)), .val (.ref b1), .val (.int (1 : Int32)), .val (.int (Int32.ofNat i)), .val (.int (Int32.ofNat j)), .val (.int (((0 : Int32) + (1 : Int32)) + (-1 : Int32))), .val (.int (((p3.toUInt32 >>> ((3 : Int32) &&& 31).toUInt32).toInt32) &&& (3 : Int32)))] [(.int (1 : Int32))])) _
            refine XS.iload X28.here hx rfl (hb hby at_185) rfl ?_
            show Steps p.tables e below (T28.setTop (mkF m 187 #[.val (.int p0), .val (.int p1), .val (.int p2), .val (.int p3), .val (.int (Int32.ofNat sz)), .val (.ref b1), .val (.int (1 : Int32)), .val (.int (Int32.ofNat i)), .val (.int (Int32.ofNat j)), .val (.int (((0 : Int32) + (1 : Int32)) + (-1 : Int32))), .val (.int (((p3.toUInt32 >>> ((3 : Int32) &&& 31).toUInt32).toInt32) &&& (3 : Int32)))] [(.int (((0 : Int32) + (1 : Int32)) + (-1 : Int32))), (.int (1 : Int32))])) _
            refine XS.ifNo X28.here hx rfl (hb hby at_187) rfl ((if0 _ _).trans (teq (by decide)).2) ?_
            show Steps p.tables e below (T28.setTop (mkF m 190 #[.val (.int p0), .val (.int p1), .val (.int p2), .val (.int p3), .val (.int (Int32.ofNat sz)), .val (.ref b1), .val (.int (1 : Int32)), .val (.int (Int32.ofNat i)), .val (.int (Int32.ofNat j)), .val (.int (((0 : Int32) + (1 : Int32)) + (-1 : Int32))), .val (.int (((p3.toUInt32 >>> ((3 : Int32) &&& 31).toUInt32).toInt32) &&& (3 : Int32)))] [(.int (1 : Int32))])) _
            refine XS.iconst X28.here hx rfl (hb hby at_190) ?_
            show Steps p.tables e below (T28.setTop (mkF m 191 #[.val (.int p0), .val (.int p1), .val (.int p2), .val (.int p3), .val (.int (Int32.ofNat sz)), .val (.ref b1), .val (.int (1 : Int32)), .val (.int (Int32.ofNat i)), .val (.int (Int32.ofNat j)), .val (.int (((0 : Int32) + (1 : Int32)) + (-1 : Int32))), .val (.int (((p3.toUInt32 >>> ((3 : Int32) &&& 31).toUInt32).toInt32) &&& (3 : Int32)))] [(.int (1 : Int32)), (.int (1 : Int32))])) _
            refine XS.goto X28.here hx rfl (pc0 := 191) (pc' := 195) rfl (hb hby at_191) (by decide) (by decide) ?_
            show Steps p.tables e below (T28.setTop (mkF m 195 #[.val (.int p0), .val (.int p1), .val (.int p2), .val (.int p3), .val (.int (Int32.ofNat sz)), .val (.ref b1), .val (.int (1 : Int32)), .val (.int (Int32.ofNat i)), .val (.int (Int32.ofNat j)), .val (.int (((0 : Int32) + (1 : Int32)) + (-1 : Int32))), .val (.int (((p3.toUInt32 >>> ((3 : Int32) &&& 31).toUInt32).toInt32) &&& (3 : Int32)))] [(.int (1 : Int32)), (.int (1 : Int32))])) _
            refine XS.icmpNo X28.here hx rfl (hb hby at_195) rfl (teq (by decide : (1 : Int32) = (1 : Int32))).2 ?_
            show Steps p.tables e below (T28.setTop (mkF m 198 #[.val (.int p0), .val (.int p1), .val (.int p2), .val (.int p3), .val (.int (Int32.ofNat sz)), .val (.ref b1), .val (.int (1 : Int32)), .val (.int (Int32.ofNat i)), .val (.int (Int32.ofNat j)), .val (.int (((0 : Int32) + (1 : Int32)) + (-1 : Int32))), .val (.int (((p3.toUInt32 >>> ((3 : Int32) &&& 31).toUInt32).toInt32) &&& (3 : Int32)))] [])) _
            refine XS.iconst X28.here hx rfl (hb hby at_198) ?_
            show Steps p.tables e below (T28.setTop (mkF m 199 #[.val (.int p0), .val (.int p1), .val (.int p2), .val (.int p3), .val (.int (Int32.ofNat sz)), .val (.ref b1), .val (.int (1 : Int32)), .val (.int (Int32.ofNat i)), .val (.int (Int32.ofNat j)), .val (.int (((0 : Int32) + (1 : Int32)) + (-1 : Int32))), .val (.int (((p3.toUInt32 >>> ((3 : Int32) &&& 31).toUInt32).toInt32) &&& (3 : Int32)))] [(.int (1 : Int32))])) _
            refine XS.goto X28.here hx rfl (pc0 := 199) (pc' := 203) rfl (hb hby at_199) (by decide) (by decide) ?_
            show Steps p.tables e below (T28.setTop (mkF m 203 #[.val (.int p0), .val (.int p1), .val (.int p2), .val (.int p3), .val (.int (Int32.ofNat sz)), .val (.ref b1), .val (.int (1 : Int32)), .val (.int (Int32.ofNat i)), .val (.int (Int32.ofNat j)), .val (.int (((0 : Int32) + (1 : Int32)) + (-1 : Int32))), .val (.int (((p3.toUInt32 >>> ((3 : Int32) &&& 31).toUInt32).toInt32) &&& (3 : Int32)))] [(.int (1 : Int32))])) _
            refine XS.istore X28.here hx rfl (hb hby at_203) rfl (l' := #[.val (.int p0), .val (.int p1), .val (.int p2), .val (.int p3), .val (.int (Int32.ofNat sz)), .val (.ref b1), .val (.int (1 : Int32)), .val (.int (Int32.ofNat i)), .val (.int (Int32.ofNat j)), .val (.int (((0 : Int32) + (1 : Int32)) + (-1 : Int32))), .val (.int (((p3.toUInt32 >>> ((3 : Int32) &&& 31).toUInt32).toInt32) &&& (3 : Int32)))]) rfl ?_
            show Steps p.tables e below (T28.setTop (mkF m 205 #[.val (.int p0), .val (.int p1), .val (.int p2), .val (.int p3), .val (.int (Int32.ofNat sz)), .val (.ref b1), .val (.int (1 : Int32)), .val (.int (Int32.ofNat i)), .val (.int (Int32.ofNat j)), .val (.int (((0 : Int32) + (1 : Int32)) + (-1 : Int32))), .val (.int (((p3.toUInt32 >>> ((3 : Int32) &&& 31).toUInt32).toInt32) &&& (3 : Int32)))] [])) _
            refine XS.iload X28.here hx rfl (hb hby at_205) rfl ?_
            show Steps p.tables e below (T28.setTop (mkF m 207 #[.val (.int p0), .val (.int p1), .val (.int p2), .val (.int p3), .val (.int (Int32.ofNat sz)), .val (.ref b1), .val (.int (1 : Int32)), .val (.int (Int32.ofNat i)), .val (.int (Int32.ofNat j)), .val (.int (((0 : Int32) + (1 : Int32)) + (-1 : Int32))), .val (.int (((p3.toUInt32 >>> ((3 : Int32) &&& 31).toUInt32).toInt32) &&& (3 : Int32)))] [(.int (((p3.toUInt32 >>> ((3 : Int32) &&& 31).toUInt32).toInt32) &&& (3 : Int32)))])) _
            refine XS.iconst X28.here hx rfl (hb hby at_207) ?_
            exact kt
          by_cases hc30 : (((p3.toUInt32 >>> ((3 : Int32) &&& 31).toUInt32).toInt32) &&& (3 : Int32)) < (2 : Int32)
          · skip
            obtain ⟨fs, hr, hrun, hended, hW, hsame⟩ := X28.leave (v := some (.int (1 : Int32))) (fun h => by rw [Bd.returns] at h; cases h)
            refine ⟨_, _, pre29 _ ?_, hrun, hended, _, _, rfl, ?_, ⟨_, rfl⟩, hW, hsame.mono (by decide) (by decide)⟩
            · skip
              show Steps p.tables e below (T28.setTop (mkF m 208 #[.val (.int p0), .val (.int p1), .val (.int p2), .val (.int p3), .val (.int (Int32.ofNat sz)), .val (.ref b1), .val (.int (1 : Int32)), .val (.int (Int32.ofNat i)), .val (.int (Int32.ofNat j)), .val (.int (((0 : Int32) + (1 : Int32)) + (-1 : Int32))), .val (.int (((p3.toUInt32 >>> ((3 : Int32) &&& 31).toUInt32).toInt32) &&& (3 : Int32)))] [(.int (2 : Int32)), (.int (((p3.toUInt32 >>> ((3 : Int32) &&& 31).toUInt32).toInt32) &&& (3 : Int32)))])) _
              refine XS.icmpYes X28.here hx rfl (pc0 := 208) (pc' := 255) rfl (hb hby at_208) rfl (tlt hc30).1 (by decide) (by decide) ?_
              show Steps p.tables e below (T28.setTop (mkF m 255 #[.val (.int p0), .val (.int p1), .val (.int p2), .val (.int p3), .val (.int (Int32.ofNat sz)), .val (.ref b1), .val (.int (1 : Int32)), .val (.int (Int32.ofNat i)), .val (.int (Int32.ofNat j)), .val (.int (((0 : Int32) + (1 : Int32)) + (-1 : Int32))), .val (.int (((p3.toUInt32 >>> ((3 : Int32) &&& 31).toUInt32).toInt32) &&& (3 : Int32)))] [])) _
              refine XS.iload X28.here hx rfl (hb hby at_255) rfl ?_
              show Steps p.tables e below (T28.setTop (mkF m 257 #[.val (.int p0), .val (.int p1), .val (.int p2), .val (.int p3), .val (.int (Int32.ofNat sz)), .val (.ref b1), .val (.int (1 : Int32)), .val (.int (Int32.ofNat i)), .val (.int (Int32.ofNat j)), .val (.int (((0 : Int32) + (1 : Int32)) + (-1 : Int32))), .val (.int (((p3.toUInt32 >>> ((3 : Int32) &&& 31).toUInt32).toInt32) &&& (3 : Int32)))] [(.int (1 : Int32))])) _
              exact retN X28 hx (t := .boolean) Bd.returns (by simp) (hb hby at_257) hr
            · exact ⟨(by first | rfl | simp [hc5, hc10, hc12, hc22, hc30]), N28⟩
          · skip
            obtain ⟨fs, hr, hrun, hended, hW, hsame⟩ := X28.leave (v := some (.int (1 : Int32))) (fun h => by rw [Bd.returns] at h; cases h)
            refine ⟨_, _, pre29 _ ?_, hrun, hended, _, _, rfl, ?_, ⟨_, rfl⟩, hW, hsame.mono (by decide) (by decide)⟩
            · skip
              show Steps p.tables e below (T28.setTop (mkF m 208 #[.val (.int p0), .val (.int p1), .val (.int p2), .val (.int p3), .val (.int (Int32.ofNat sz)), .val (.ref b1), .val (.int (1 : Int32)), .val (.int (Int32.ofNat i)), .val (.int (Int32.ofNat j)), .val (.int (((0 : Int32) + (1 : Int32)) + (-1 : Int32))), .val (.int (((p3.toUInt32 >>> ((3 : Int32) &&& 31).toUInt32).toInt32) &&& (3 : Int32)))] [(.int (2 : Int32)), (.int (((p3.toUInt32 >>> ((3 : Int32) &&& 31).toUInt32).toInt32) &&& (3 : Int32)))])) _
              refine XS.icmpNo X28.here hx rfl (hb hby at_208) rfl (flt hc30).1 ?_
              show Steps p.tables e below (T28.setTop (mkF m 211 #[.val (.int p0), .val (.int p1), .val (.int p2), .val (.int p3), .val (.int (Int32.ofNat sz)), .val (.ref b1), .val (.int (1 : Int32)), .val (.int (Int32.ofNat i)), .val (.int (Int32.ofNat j)), .val (.int (((0 : Int32) + (1 : Int32)) + (-1 : Int32))), .val (.int (((p3.toUInt32 >>> ((3 : Int32) &&& 31).toUInt32).toInt32) &&& (3 : Int32)))] [])) _
              refine XS.iload X28.here hx rfl (hb hby at_211) rfl ?_
              show Steps p.tables e below (T28.setTop (mkF m 213 #[.val (.int p0), .val (.int p1), .val (.int p2), .val (.int p3), .val (.int (Int32.ofNat sz)), .val (.ref b1), .val (.int (1 : Int32)), .val (.int (Int32.ofNat i)), .val (.int (Int32.ofNat j)), .val (.int (((0 : Int32) + (1 : Int32)) + (-1 : Int32))), .val (.int (((p3.toUInt32 >>> ((3 : Int32) &&& 31).toUInt32).toInt32) &&& (3 : Int32)))] [(.int (((0 : Int32) + (1 : Int32)) + (-1 : Int32)))])) _
              refine XS.ifYes X28.here hx rfl (pc0 := 213) (pc' := 255) rfl (hb hby at_213) rfl ((if0 _ _).trans (flt (by decide)).2.2.2) (by decide) (by decide) ?_
              show Steps p.tables e below (T28.setTop (mkF m 255 #[.val (.int p0), .val (.int p1), .val (.int p2), .val (.int p3), .val (.int (Int32.ofNat sz)), .val (.ref b1), .val (.int (1 : Int32)), .val (.int (Int32.ofNat i)), .val (.int (Int32.ofNat j)), .val (.int (((0 : Int32) + (1 : Int32)) + (-1 : Int32))), .val (.int (((p3.toUInt32 >>> ((3 : Int32) &&& 31).toUInt32).toInt32) &&& (3 : Int32)))] [])) _
              refine XS.iload X28.here hx rfl (hb hby at_255) rfl ?_
              show Steps p.tables e below (T28.setTop (mkF m 257 #[.val (.int p0), .val (.int p1), .val (.int p2), .val (.int p3), .val (.int (Int32.ofNat sz)), .val (.ref b1), .val (.int (1 : Int32)), .val (.int (Int32.ofNat i)), .val (.int (Int32.ofNat j)), .val (.int (((0 : Int32) + (1 : Int32)) + (-1 : Int32))), .val (.int (((p3.toUInt32 >>> ((3 : Int32) &&& 31).toUInt32).toInt32) &&& (3 : Int32)))] [(.int (1 : Int32))])) _
              exact retN X28 hx (t := .boolean) Bd.returns (by simp) (hb hby at_257) hr
            · exact ⟨(by first | rfl | simp [hc5, hc10, hc12, hc22, hc30]), N28⟩
    · skip
      obtain ⟨cq31, kq31, q31a, q31b, q31c⟩ := isOf hZ e3 Ex2
      obtain ⟨_, _, ⟨T31, L31, k31, n31⟩, -, X31, ⟨Lc31, hQ31, l31, y31, z31⟩, st31⟩ := X3.virtualBack hx (y := (⟨"com/example/halfword/halfword/verify/RoundRobinSet", "add", "(I)V"⟩ : MethodName)) (z := (⟨"com/example/halfword/halfword/verify/RoundRobinSet", "add", "(I)V"⟩ : MethodName)) hown (mvT hZ (hw _ (List.mem_of_getElem? (i := 32) rfl))) (mvT hZ (hw _ (List.mem_of_getElem? (i := 33) rfl))) (notFace_of_selects (args := #[]) (mvT hZ (hw _ (List.mem_of_getElem? (i := 35) rfl)))) (mvT hZ (hw _ (List.mem_of_getElem? (i := 35) rfl))) (mvT hZ (hw _ (List.mem_of_getElem? (i := 34) rfl))) (by decide) (backOf (W := 0) (rAdd l Z a0 hw [] b1 sz 0 i (fun _ => False) T2.heap n0 (Rr2.le) Rr2 hi) hZ (hw _ (List.mem_of_getElem? (i := 36) rfl)) (hw _ (List.mem_of_getElem? (i := 3) rfl)) (by decide) (by decide)) q31a q31c (g := (mkF m 74 #[.val (.int p0), .val (.int p1), .val (.int p2), .val (.int p3), .val (.int (Int32.ofNat sz)), .val (.ref b1), .val (.int (1 : Int32)), .val (.int (Int32.ofNat i)), .val (.int (Int32.ofNat j)), .val (.int (0 : Int32)), .unset] [(.int (Int32.ofNat i)), (.ref b1)])) rfl (by rw [hml]; rfl) (Steps.refl _) (argsL := [(.int (Int32.ofNat i))]) (rest := []) (lenOf pd__I_V rfl) rfl (by show 2 * 0 + _ ≤ _; exact Nat.le_of_eq rfl) (hb hby at_74) (fun _ _ => ⟨rfl, e3, (by decide : 6 + 0 ≤ _), (by decide : 17415 + 0 ≤ _)⟩)
      dsimp only [Pt.U, Pt.locs, Pt.cells, Pt.slots] at X31 l31 y31 z31 st31 hQ31
      rw [l31, y31, z31] at X31
      obtain ⟨rfl, N31q, Rr31⟩ := hQ31
      have N31 := Fr.app N3 N31q
      have Ex31 := Rr31.ex
      obtain ⟨cq32, kq32, q32a, q32b, q32c⟩ := isOf hZ rfl Ex31
      obtain ⟨_, _, ⟨T32, L32, k32, n32⟩, -, X32, ⟨Lc32, hQ32, l32, y32, z32⟩, st32⟩ := X31.virtualBack hx (y := (⟨"com/example/halfword/halfword/verify/RoundRobinSet", "isEmpty", "()Z"⟩ : MethodName)) (z := (⟨"com/example/halfword/halfword/verify/RoundRobinSet", "isEmpty", "()Z"⟩ : MethodName)) hown (mvT hZ (hw _ (List.mem_of_getElem? (i := 26) rfl))) (mvT hZ (hw _ (List.mem_of_getElem? (i := 27) rfl))) (notFace_of_selects (args := #[]) (mvT hZ (hw _ (List.mem_of_getElem? (i := 29) rfl)))) (mvT hZ (hw _ (List.mem_of_getElem? (i := 29) rfl))) (mvT hZ (hw _ (List.mem_of_getElem? (i := 28) rfl))) (by decide) (backOf (W := 0) (rEm l Z a0 hw [] b1 sz 0 (Ad (fun _ => False) i) (0 : Int32) T31.heap n0 (Rr31.le) Rr31 (Or.inr ⟨rfl, Cnt.some (c := 0) (Cnt.add0 Cnt.zero i)⟩)) hZ (hw _ (List.mem_of_getElem? (i := 30) rfl)) (hw _ (List.mem_of_getElem? (i := 3) rfl)) (by decide) (by decide)) q32a q32c (g := (mkF m 87 #[.val (.int p0), .val (.int p1), .val (.int p2), .val (.int p3), .val (.int (Int32.ofNat sz)), .val (.ref b1), .val (.int (1 : Int32)), .val (.int (Int32.ofNat i)), .val (.int (Int32.ofNat j)), .val (.int (1 : Int32)), .unset] [(.ref b1)])) rfl (by rw [hml]; rfl) (Steps.refl _) (argsL := []) (rest := []) (lenOf pd___Z rfl) rfl (by show 2 * 0 + _ ≤ _; exact Nat.le_of_eq rfl) (hb hby at_87) (fun _ _ => ⟨rfl, rfl, (by decide : 6 + 0 ≤ _), (by decide : 17415 + 0 ≤ _)⟩)
      dsimp only [Pt.U, Pt.locs, Pt.cells, Pt.slots] at X32 l32 y32 z32 st32 hQ32
      rw [l32, y32, z32] at X32
      obtain ⟨rfl, N32q, e32⟩ := hQ32
      have N32 := Fr.app N31 N32q
      have pre33 : ∀ t, Steps p.tables e below (T32.setTop (mkF m 103 #[.val (.int p0), .val (.int p1), .val (.int p2), .val (.int p3), .val (.int (Int32.ofNat sz)), .val (.ref b1), .val (.int (1 : Int32)), .val (.int (Int32.ofNat i)), .val (.int (Int32.ofNat j)), .val (.int (1 : Int32)), .unset] [(.int (p3 &&& (4 : Int32)))])) t → Steps p.tables e below (s₁.setTop (entryFrame m #[(.int p0), (.int p1), (.int p2), (.int p3)] maxLocals)) t := by
        intro t kt
        refine pre9 t ?_
        show Steps p.tables e below (T3.setTop (mkF m 67 #[.val (.int p0), .val (.int p1), .val (.int p2), .val (.int p3), .val (.int (Int32.ofNat sz)), .val (.ref b1), .val (.int (1 : Int32)), .val (.int (Int32.ofNat i)), .val (.int (Int32.ofNat j)), .val (.int (0 : Int32)), .unset] [(.int (p3 &&& (2 : Int32)))])) _
        refine XS.ifNo X3.here hx rfl (hb hby at_67) rfl ((if0 _ _).trans (feq hc10).1) ?_
        show Steps p.tables e below (T3.setTop (mkF m 70 #[.val (.int p0), .val (.int p1), .val (.int p2), .val (.int p3), .val (.int (Int32.ofNat sz)), .val (.ref b1), .val (.int (1 : Int32)), .val (.int (Int32.ofNat i)), .val (.int (Int32.ofNat j)), .val (.int (0 : Int32)), .unset] [])) _
        refine XS.aload X3.here hx rfl (hb hby at_70) rfl rfl ?_
        show Steps p.tables e below (T3.setTop (mkF m 72 #[.val (.int p0), .val (.int p1), .val (.int p2), .val (.int p3), .val (.int (Int32.ofNat sz)), .val (.ref b1), .val (.int (1 : Int32)), .val (.int (Int32.ofNat i)), .val (.int (Int32.ofNat j)), .val (.int (0 : Int32)), .unset] [(.ref b1)])) _
        refine XS.iload X3.here hx rfl (hb hby at_72) rfl ?_
        show Steps p.tables e below (T3.setTop (mkF m 74 #[.val (.int p0), .val (.int p1), .val (.int p2), .val (.int p3), .val (.int (Int32.ofNat sz)), .val (.ref b1), .val (.int (1 : Int32)), .val (.int (Int32.ofNat i)), .val (.int (Int32.ofNat j)), .val (.int (0 : Int32)), .unset] [(.int (Int32.ofNat i)), (.ref b1)])) _
        refine st31.trans ?_
        show Steps p.tables e below (T31.setTop (mkF m 77 #[.val (.int p0), .val (.int p1), .val (.int p2), .val (.int p3), .val (.int (Int32.ofNat sz)), .val (.ref b1), .val (.int (1 : Int32)), .val (.int (Int32.ofNat i)), .val (.int (Int32.ofNat j)), .val (.int (0 : Int32)), .unset] [])) _
        refine XS.iconst X31.here hx rfl (hb hby at_77) ?_
        show Steps p.tables e below (T31.setTop (mkF m 78 #[.val (.int p0), .val (.int p1), .val (.int p2), .val (.int p3), .val (.int (Int32.ofNat sz)), .val (.ref b1), .val (.int (1 : Int32)), .val (.int (Int32.ofNat i)), .val (.int (Int32.ofNat j)), .val (.int (0 : Int32)), .unset] [(.int (1 : Int32))])) _
        refine XS.istore X31.here hx rfl (hb hby at_78) rfl (l' := #[.val (.int p0), .val (.int p1), .val (.int p2), .val (.int p3), .val (.int (Int32.ofNat sz)), .val (.ref b1), .val (.int (1 : Int32)), .val (.int (Int32.ofNat i)), .val (.int (Int32.ofNat j)), .val (.int (1 : Int32)), .unset]) rfl ?_
        show Steps p.tables e below (T31.setTop (mkF m 80 #[.val (.int p0), .val (.int p1), .val (.int p2), .val (.int p3), .val (.int (Int32.ofNat sz)), .val (.ref b1), .val (.int (1 : Int32)), .val (.int (Int32.ofNat i)), .val (.int (Int32.ofNat j)), .val (.int (1 : Int32)), .unset] [])) _
        refine XS.iload X31.here hx rfl (hb hby at_80) rfl ?_
        show Steps p.tables e below (T31.setTop (mkF m 82 #[.val (.int p0), .val (.int p1), .val (.int p2), .val (.int p3), .val (.int (Int32.ofNat sz)), .val (.ref b1), .val (.int (1 : Int32)), .val (.int (Int32.ofNat i)), .val (.int (Int32.ofNat j)), .val (.int (1 : Int32)), .unset] [(.int (1 : Int32))])) _
        refine XS.ifNo X31.here hx rfl (hb hby at_82) rfl ((if0 _ _).trans (feq (by decide : ¬ ((1 : Int32) = (0 : Int32)))).1) ?_
        show Steps p.tables e below (T31.setTop (mkF m 85 #[.val (.int p0), .val (.int p1), .val (.int p2), .val (.int p3), .val (.int (Int32.ofNat sz)), .val (.ref b1), .val (.int (1 : Int32)), .val (.int (Int32.ofNat i)), .val (.int (Int32.ofNat j)), .val (.int (1 : Int32)), .unset] [])) _
        refine XS.aload X31.here hx rfl (hb hby at_85) rfl rfl ?_
        show Steps p.tables e below (T31.setTop (mkF m 87 #[.val (.int p0), .val (.int p1), .val (.int p2), .val (.int p3), .val (.int (Int32.ofNat sz)), .val (.ref b1), .val (.int (1 : Int32)), .val (.int (Int32.ofNat i)), .val (.int (Int32.ofNat j)), .val (.int (1 : Int32)), .unset] [(.ref b1)])) _
        refine st32.trans ?_
        show Steps p.tables e below (T32.setTop (mkF m 90 #[.val (.int p0), .val (.int p1), .val (.int p2), .val (.int p3), .val (.int (Int32.ofNat sz)), .val (.ref b1), .val (.int (1 : Int32)), .val (.int (Int32.ofNat i)), .val (.int (Int32.ofNat j)), .val (.int (1 : Int32)), .unset] [(.int (0 : Int32))])) _
        refine XS.ifNo X32.here hx rfl (hb hby at_90) rfl ((if0 _ _).trans (teq (by decide : (0 : Int32) = (0 : Int32))).2) ?_
        show Steps p.tables e below (T32.setTop (mkF m 93 #[.val (.int p0), .val (.int p1), .val (.int p2), .val (.int p3), .val (.int (Int32.ofNat sz)), .val (.ref b1), .val (.int (1 : Int32)), .val (.int (Int32.ofNat i)), .val (.int (Int32.ofNat j)), .val (.int (1 : Int32)), .unset] [])) _
        refine XS.iconst X32.here hx rfl (hb hby at_93) ?_
        show Steps p.tables e below (T32.setTop (mkF m 94 #[.val (.int p0), .val (.int p1), .val (.int p2), .val (.int p3), .val (.int (Int32.ofNat sz)), .val (.ref b1), .val (.int (1 : Int32)), .val (.int (Int32.ofNat i)), .val (.int (Int32.ofNat j)), .val (.int (1 : Int32)), .unset] [(.int (1 : Int32))])) _
        refine XS.goto X32.here hx rfl (pc0 := 94) (pc' := 98) rfl (hb hby at_94) (by decide) (by decide) ?_
        show Steps p.tables e below (T32.setTop (mkF m 98 #[.val (.int p0), .val (.int p1), .val (.int p2), .val (.int p3), .val (.int (Int32.ofNat sz)), .val (.ref b1), .val (.int (1 : Int32)), .val (.int (Int32.ofNat i)), .val (.int (Int32.ofNat j)), .val (.int (1 : Int32)), .unset] [(.int (1 : Int32))])) _
        refine XS.istore X32.here hx rfl (hb hby at_98) rfl (l' := #[.val (.int p0), .val (.int p1), .val (.int p2), .val (.int p3), .val (.int (Int32.ofNat sz)), .val (.ref b1), .val (.int (1 : Int32)), .val (.int (Int32.ofNat i)), .val (.int (Int32.ofNat j)), .val (.int (1 : Int32)), .unset]) rfl ?_
        show Steps p.tables e below (T32.setTop (mkF m 100 #[.val (.int p0), .val (.int p1), .val (.int p2), .val (.int p3), .val (.int (Int32.ofNat sz)), .val (.ref b1), .val (.int (1 : Int32)), .val (.int (Int32.ofNat i)), .val (.int (Int32.ofNat j)), .val (.int (1 : Int32)), .unset] [])) _
        refine XS.iloadN X32.here hx rfl (hb hby at_100) rfl ?_
        show Steps p.tables e below (T32.setTop (mkF m 101 #[.val (.int p0), .val (.int p1), .val (.int p2), .val (.int p3), .val (.int (Int32.ofNat sz)), .val (.ref b1), .val (.int (1 : Int32)), .val (.int (Int32.ofNat i)), .val (.int (Int32.ofNat j)), .val (.int (1 : Int32)), .unset] [(.int p3)])) _
        refine XS.iconst X32.here hx rfl (hb hby at_101) ?_
        show Steps p.tables e below (T32.setTop (mkF m 102 #[.val (.int p0), .val (.int p1), .val (.int p2), .val (.int p3), .val (.int (Int32.ofNat sz)), .val (.ref b1), .val (.int (1 : Int32)), .val (.int (Int32.ofNat i)), .val (.int (Int32.ofNat j)), .val (.int (1 : Int32)), .unset] [(.int (4 : Int32)), (.int p3)])) _
        refine XS.iand X32.here hx rfl (hb hby at_102) rfl ?_
        exact kt
      by_cases hc34 : (p3 &&& (4 : Int32)) = (0 : Int32)
      · skip
        have pre35 : ∀ t, Steps p.tables e below (T32.setTop (mkF m 158 #[.val (.int p0), .val (.int p1), .val (.int p2), .val (.int p3), .val (.int (Int32.ofNat sz)), .val (.ref b1), .val (.int (1 : Int32)), .val (.int (Int32.ofNat i)), .val (.int (Int32.ofNat j)), .val (.int (1 : Int32)), .val (.int (((p3.toUInt32 >>> ((3 : Int32) &&& 31).toUInt32).toInt32) &&& (3 : Int32)))] [(.int (1 : Int32)), (.int (((p3.toUInt32 >>> ((3 : Int32) &&& 31).toUInt32).toInt32) &&& (3 : Int32)))])) t → Steps p.tables e below (s₁.setTop (entryFrame m #[(.int p0), (.int p1), (.int p2), (.int p3)] maxLocals)) t := by
          intro t kt
          refine pre33 t ?_
          show Steps p.tables e below (T32.setTop (mkF m 103 #[.val (.int p0), .val (.int p1), .val (.int p2), .val (.int p3), .val (.int (Int32.ofNat sz)), .val (.ref b1), .val (.int (1 : Int32)), .val (.int (Int32.ofNat i)), .val (.int (Int32.ofNat j)), .val (.int (1 : Int32)), .unset] [(.int (p3 &&& (4 : Int32)))])) _
          refine XS.ifYes X32.here hx rfl (pc0 := 103) (pc' := 148) rfl (hb hby at_103) rfl ((if0 _ _).trans (teq hc34).1) (by decide) (by decide) ?_
          show Steps p.tables e below (T32.setTop (mkF m 148 #[.val (.int p0), .val (.int p1), .val (.int p2), .val (.int p3), .val (.int (Int32.ofNat sz)), .val (.ref b1), .val (.int (1 : Int32)), .val (.int (Int32.ofNat i)), .val (.int (Int32.ofNat j)), .val (.int (1 : Int32)), .unset] [])) _
          refine XS.iloadN X32.here hx rfl (hb hby at_148) rfl ?_
          show Steps p.tables e below (T32.setTop (mkF m 149 #[.val (.int p0), .val (.int p1), .val (.int p2), .val (.int p3), .val (.int (Int32.ofNat sz)), .val (.ref b1), .val (.int (1 : Int32)), .val (.int (Int32.ofNat i)), .val (.int (Int32.ofNat j)), .val (.int (1 : Int32)), .unset] [(.int p3)])) _
          refine XS.iconst X32.here hx rfl (hb hby at_149) ?_
          show Steps p.tables e below (T32.setTop (mkF m 150 #[.val (.int p0), .val (.int p1), .val (.int p2), .val (.int p3), .val (.int (Int32.ofNat sz)), .val (.ref b1), .val (.int (1 : Int32)), .val (.int (Int32.ofNat i)), .val (.int (Int32.ofNat j)), .val (.int (1 : Int32)), .unset] [(.int (3 : Int32)), (.int p3)])) _
          refine XS.iushr X32.here hx rfl (hb hby at_150) rfl ?_
          show Steps p.tables e below (T32.setTop (mkF m 151 #[.val (.int p0), .val (.int p1), .val (.int p2), .val (.int p3), .val (.int (Int32.ofNat sz)), .val (.ref b1), .val (.int (1 : Int32)), .val (.int (Int32.ofNat i)), .val (.int (Int32.ofNat j)), .val (.int (1 : Int32)), .unset] [(.int ((p3.toUInt32 >>> ((3 : Int32) &&& 31).toUInt32).toInt32))])) _
          refine XS.iconst X32.here hx rfl (hb hby at_151) ?_
          show Steps p.tables e below (T32.setTop (mkF m 152 #[.val (.int p0), .val (.int p1), .val (.int p2), .val (.int p3), .val (.int (Int32.ofNat sz)), .val (.ref b1), .val (.int (1 : Int32)), .val (.int (Int32.ofNat i)), .val (.int (Int32.ofNat j)), .val (.int (1 : Int32)), .unset] [(.int (3 : Int32)), (.int ((p3.toUInt32 >>> ((3 : Int32) &&& 31).toUInt32).toInt32))])) _
          refine XS.iand X32.here hx rfl (hb hby at_152) rfl ?_
          show Steps p.tables e below (T32.setTop (mkF m 153 #[.val (.int p0), .val (.int p1), .val (.int p2), .val (.int p3), .val (.int (Int32.ofNat sz)), .val (.ref b1), .val (.int (1 : Int32)), .val (.int (Int32.ofNat i)), .val (.int (Int32.ofNat j)), .val (.int (1 : Int32)), .unset] [(.int (((p3.toUInt32 >>> ((3 : Int32) &&& 31).toUInt32).toInt32) &&& (3 : Int32)))])) _
          refine XS.istore X32.here hx rfl (hb hby at_153) rfl (l' := #[.val (.int p0), .val (.int p1), .val (.int p2), .val (.int p3), .val (.int (Int32.ofNat sz)), .val (.ref b1), .val (.int (1 : Int32)), .val (.int (Int32.ofNat i)), .val (.int (Int32.ofNat j)), .val (.int (1 : Int32)), .val (.int (((p3.toUInt32 >>> ((3 : Int32) &&& 31).toUInt32).toInt32) &&& (3 : Int32)))]) rfl ?_
          show Steps p.tables e below (T32.setTop (mkF m 155 #[.val (.int p0), .val (.int p1), .val (.int p2), .val (.int p3), .val (.int (Int32.ofNat sz)), .val (.ref b1), .val (.int (1 : Int32)), .val (.int (Int32.ofNat i)), .val (.int (Int32.ofNat j)), .val (.int (1 : Int32)), .val (.int (((p3.toUInt32 >>> ((3 : Int32) &&& 31).toUInt32).toInt32) &&& (3 : Int32)))] [])) _
          refine XS.iload X32.here hx rfl (hb hby at_155) rfl ?_
          show Steps p.tables e below (T32.setTop (mkF m 157 #[.val (.int p0), .val (.int p1), .val (.int p2), .val (.int p3), .val (.int (Int32.ofNat sz)), .val (.ref b1), .val (.int (1 : Int32)), .val (.int (Int32.ofNat i)), .val (.int (Int32.ofNat j)), .val (.int (1 : Int32)), .val (.int (((p3.toUInt32 >>> ((3 : Int32) &&& 31).toUInt32).toInt32) &&& (3 : Int32)))] [(.int (((p3.toUInt32 >>> ((3 : Int32) &&& 31).toUInt32).toInt32) &&& (3 : Int32)))])) _
          refine XS.iconst X32.here hx rfl (hb hby at_157) ?_
          exact kt
        by_cases hc36 : (((p3.toUInt32 >>> ((3 : Int32) &&& 31).toUInt32).toInt32) &&& (3 : Int32)) < (1 : Int32)
        · skip
          have pre37 : ∀ t, Steps p.tables e below (T32.setTop (mkF m 208 #[.val (.int p0), .val (.int p1), .val (.int p2), .val (.int p3), .val (.int (Int32.ofNat sz)), .val (.ref b1), .val (.int (1 : Int32)), .val (.int (Int32.ofNat i)), .val (.int (Int32.ofNat j)), .val (.int (1 : Int32)), .val (.int (((p3.toUInt32 >>> ((3 : Int32) &&& 31).toUInt32).toInt32) &&& (3 : Int32)))] [(.int (2 : Int32)), (.int (((p3.toUInt32 >>> ((3 : Int32) &&& 31).toUInt32).toInt32) &&& (3 : Int32)))])) t → Steps p.tables e below (s₁.setTop (entryFrame m #[(.int p0), (.int p1), (.int p2), (.int p3)] maxLocals)) t := by
            intro t kt
            refine pre35 t ?_
            show Steps p.tables e below (T32.setTop (mkF m 158 #[.val (.int p0), .val (.int p1), .val (.int p2), .val (.int p3), .val (.int (Int32.ofNat sz)), .val (.ref b1), .val (.int (1 : Int32)), .val (.int (Int32.ofNat i)), .val (.int (Int32.ofNat j)), .val (.int (1 : Int32)), .val (.int (((p3.toUInt32 >>> ((3 : Int32) &&& 31).toUInt32).toInt32) &&& (3 : Int32)))] [(.int (1 : Int32)), (.int (((p3.toUInt32 >>> ((3 : Int32) &&& 31).toUInt32).toInt32) &&& (3 : Int32)))])) _
            refine XS.icmpYes X32.here hx rfl (pc0 := 158) (pc' := 205) rfl (hb hby at_158) rfl (tlt hc36).1 (by decide) (by decide) ?_
            show Steps p.tables e below (T32.setTop (mkF m 205 #[.val (.int p0), .val (.int p1), .val (.int p2), .val (.int p3), .val (.int (Int32.ofNat sz)), .val (.ref b1), .val (.int (1 : Int32)), .val (.int (Int32.ofNat i)), .val (.int (Int32.ofNat j)), .val (.int (1 : Int32)), .val (.int (((p3.toUInt32 >>> ((3 : Int32) &&& 31).toUInt32).toInt32) &&& (3 : Int32)))] [])) _
            refine XS.iload X32.here hx rfl (hb hby at_205) rfl ?_
            show Steps p.tables e below (T32.setTop (mkF m 207 #[.val (.int p0), .val (.int p1), .val (.int p2), .val (.int p3), .val (.int (Int32.ofNat sz)), .val (.ref b1), .val (.int (1 : Int32)), .val (.int (Int32.ofNat i)), .val (.int (Int32.ofNat j)), .val (.int (1 : Int32)), .val (.int (((p3.toUInt32 >>> ((3 : Int32) &&& 31).toUInt32).toInt32) &&& (3 : Int32)))] [(.int (((p3.toUInt32 >>> ((3 : Int32) &&& 31).toUInt32).toInt32) &&& (3 : Int32)))])) _
            refine XS.iconst X32.here hx rfl (hb hby at_207) ?_
            exact kt
          by_cases hc38 : (((p3.toUInt32 >>> ((3 : Int32) &&& 31).toUInt32).toInt32) &&& (3 : Int32)) < (2 : Int32)
          · skip
            obtain ⟨fs, hr, hrun, hended, hW, hsame⟩ := X32.leave (v := some (.int (1 : Int32))) (fun h => by rw [Bd.returns] at h; cases h)
            refine ⟨_, _, pre37 _ ?_, hrun, hended, _, _, rfl, ?_, ⟨_, rfl⟩, hW, hsame.mono (by decide) (by decide)⟩
            · skip
              show Steps p.tables e below (T32.setTop (mkF m 208 #[.val (.int p0), .val (.int p1), .val (.int p2), .val (.int p3), .val (.int (Int32.ofNat sz)), .val (.ref b1), .val (.int (1 : Int32)), .val (.int (Int32.ofNat i)), .val (.int (Int32.ofNat j)), .val (.int (1 : Int32)), .val (.int (((p3.toUInt32 >>> ((3 : Int32) &&& 31).toUInt32).toInt32) &&& (3 : Int32)))] [(.int (2 : Int32)), (.int (((p3.toUInt32 >>> ((3 : Int32) &&& 31).toUInt32).toInt32) &&& (3 : Int32)))])) _
              refine XS.icmpYes X32.here hx rfl (pc0 := 208) (pc' := 255) rfl (hb hby at_208) rfl (tlt hc38).1 (by decide) (by decide) ?_
              show Steps p.tables e below (T32.setTop (mkF m 255 #[.val (.int p0), .val (.int p1), .val (.int p2), .val (.int p3), .val (.int (Int32.ofNat sz)), .val (.ref b1), .val (.int (1 : Int32)), .val (.int (Int32.ofNat i)), .val (.int (Int32.ofNat j)), .val (.int (1 : Int32)), .val (.int (((p3.toUInt32 >>> ((3 : Int32) &&& 31).toUInt32).toInt32) &&& (3 : Int32)))] [])) _
              refine XS.iload X32.here hx rfl (hb hby at_255) rfl ?_
              show Steps p.tables e below (T32.setTop (mkF m 257 #[.val (.int p0), .val (.int p1), .val (.int p2), .val (.int p3), .val (.int (Int32.ofNat sz)), .val (.ref b1), .val (.int (1 : Int32)), .val (.int (Int32.ofNat i)), .val (.int (Int32.ofNat j)), .val (.int (1 : Int32)), .val (.int (((p3.toUInt32 >>> ((3 : Int32) &&& 31).toUInt32).toInt32) &&& (3 : Int32)))] [(.int (1 : Int32))])) _
              exact retN X32 hx (t := .boolean) Bd.returns (by simp) (hb hby at_257) hr
            · exact ⟨(by first | rfl | simp [hc5, hc10, hc34, hc36, hc38]), N32⟩
          · skip
            obtain ⟨cq39, kq39, q39a, q39b, q39c⟩ := isOf hZ e32 Ex31
            obtain ⟨_, _, ⟨T39, L39, k39, n39⟩, -, X39, ⟨Lc39, hQ39, l39, y39, z39⟩, st39⟩ := X32.virtualBack hx (y := (⟨"com/example/halfword/halfword/verify/RoundRobinSet", "take", "()I"⟩ : MethodName)) (z := (⟨"com/example/halfword/halfword/verify/RoundRobinSet", "take", "()I"⟩ : MethodName)) hown (mvT hZ (hw _ (List.mem_of_getElem? (i := 45) rfl))) (mvT hZ (hw _ (List.mem_of_getElem? (i := 46) rfl))) (notFace_of_selects (args := #[]) (mvT hZ (hw _ (List.mem_of_getElem? (i := 48) rfl)))) (mvT hZ (hw _ (List.mem_of_getElem? (i := 48) rfl))) (mvT hZ (hw _ (List.mem_of_getElem? (i := 47) rfl))) (by decide) (backOf (W := 0) (rTk l Z a0 hw [] b1 sz 0 (Ad (fun _ => False) i) T31.heap n0 (Rr31.le) Rr31 (Cnt.some (c := 0) (Cnt.add0 Cnt.zero i))) hZ (hw _ (List.mem_of_getElem? (i := 49) rfl)) (hw _ (List.mem_of_getElem? (i := 3) rfl)) (by decide) (by decide)) q39a q39c (g := (mkF m 218 #[.val (.int p0), .val (.int p1), .val (.int p2), .val (.int p3), .val (.int (Int32.ofNat sz)), .val (.ref b1), .val (.int (1 : Int32)), .val (.int (Int32.ofNat i)), .val (.int (Int32.ofNat j)), .val (.int (1 : Int32)), .val (.int (((p3.toUInt32 >>> ((3 : Int32) &&& 31).toUInt32).toInt32) &&& (3 : Int32)))] [(.ref b1)])) rfl (by rw [hml]; rfl) (Steps.refl _) (argsL := []) (rest := []) (lenOf pd___I rfl) rfl (by show 2 * 0 + _ ≤ _; exact Nat.le_of_eq rfl) (hb hby at_218) (fun _ _ => ⟨rfl, e32, (by decide : 6 + 0 ≤ _), (by decide : 17415 + 0 ≤ _)⟩)
            dsimp only [Pt.U, Pt.locs, Pt.cells, Pt.slots] at X39 l39 y39 z39 st39 hQ39
            rw [l39, y39, z39] at X39
            obtain ⟨x39, zz39, rfl, N39q, hMx39, Rr39⟩ := hQ39
            have N39 := Fr.app N32 N39q
            have Ex39 := Rr39.ex
            obtain ⟨cq40, kq40, q40a, q40b, q40c⟩ := isOf hZ rfl Ex39
            obtain ⟨_, _, ⟨T40, L40, k40, n40⟩, -, X40, ⟨Lc40, hQ40, l40, y40, z40⟩, st40⟩ := X39.virtualBack hx (y := (⟨"com/example/halfword/halfword/verify/RoundRobinSet", "isEmpty", "()Z"⟩ : MethodName)) (z := (⟨"com/example/halfword/halfword/verify/RoundRobinSet", "isEmpty", "()Z"⟩ : MethodName)) hown (mvT hZ (hw _ (List.mem_of_getElem? (i := 26) rfl))) (mvT hZ (hw _ (List.mem_of_getElem? (i := 27) rfl))) (notFace_of_selects (args := #[]) (mvT hZ (hw _ (List.mem_of_getElem? (i := 29) rfl)))) (mvT hZ (hw _ (List.mem_of_getElem? (i := 29) rfl))) (mvT hZ (hw _ (List.mem_of_getElem? (i := 28) rfl))) (by decide) (backOf (W := 0) (rEm l Z a0 hw [] b1 sz (x39 + 1) (Rm (Ad (fun _ => False) i) x39) (1 : Int32) T39.heap n0 (Rr39.le) Rr39 (Or.inl ⟨rfl, (Cnt.rm (c := 0) (Cnt.add0 Cnt.zero i) hMx39)⟩)) hZ (hw _ (List.mem_of_getElem? (i := 30) rfl)) (hw _ (List.mem_of_getElem? (i := 3) rfl)) (by decide) (by decide)) q40a q40c (g := (mkF m 232 #[.val (.int p0), .val (.int p1), .val (.int p2), .val (.int p3), .val (.int (Int32.ofNat sz)), .val (.ref b1), .val (.int (1 : Int32)), .val (.int (Int32.ofNat i)), .val (.int (Int32.ofNat j)), .val (.int ((1 : Int32) + (-1 : Int32))), .val (.int (((p3.toUInt32 >>> ((3 : Int32) &&& 31).toUInt32).toInt32) &&& (3 : Int32)))] [(.ref b1)])) rfl (by rw [hml]; rfl) (Steps.refl _) (argsL := []) (rest := []) (lenOf pd___Z rfl) rfl (by show 2 * 0 + _ ≤ _; exact Nat.le_of_eq rfl) (hb hby at_232) (fun _ _ => ⟨rfl, rfl, (by decide : 6 + 0 ≤ _), (by decide : 17415 + 0 ≤ _)⟩)
            dsimp only [Pt.U, Pt.locs, Pt.cells, Pt.slots] at X40 l40 y40 z40 st40 hQ40
            rw [l40, y40, z40] at X40
            obtain ⟨rfl, N40q, e40⟩ := hQ40
            have N40 := Fr.app N39 N40q
            obtain ⟨fs, hr, hrun, hended, hW, hsame⟩ := X40.leave (v := some (.int (1 : Int32))) (fun h => by rw [Bd.returns] at h; cases h)
            refine ⟨_, _, pre37 _ ?_, hrun, hended, _, _, rfl, ?_, ⟨_, rfl⟩, hW, hsame.mono (by decide) (by decide)⟩
            · skip
              show Steps p.tables e below (T32.setTop (mkF m 208 #[.val (.int p0), .val (.int p1), .val (.int p2), .val (.int p3), .val (.int (Int32.ofNat sz)), .val (.ref b1), .val (.int (1 : Int32)), .val (.int (Int32.ofNat i)), .val (.int (Int32.ofNat j)), .val (.int (1 : Int32)), .val (.int (((p3.toUInt32 >>> ((3 : Int32) &&& 31).toUInt32).toInt32) &&& (3 : Int32)))] [(.int (2 : Int32)), (.int (((p3.toUInt32 >>> ((3 : Int32) &&& 31).toUInt32).toInt32) &&& (3 : Int32)))])) _
              refine XS.icmpNo X32.here hx rfl (hb hby at_208) rfl (flt hc38).1 ?_
              show Steps p.tables e below (T32.setTop (mkF m 211 #[.val (.int p0), .val (.int p1), .val (.int p2), .val (.int p3), .val (.int (Int32.ofNat sz)), .val (.ref b1), .val (.int (1 : Int32)), .val (.int (Int32.ofNat i)), .val (.int (Int32.ofNat j)), .val (.int (1 : Int32)), .val (.int (((p3.toUInt32 >>> ((3 : Int32) &&& 31).toUInt32).toInt32) &&& (3 : Int32)))] [])) _
              refine XS.iload X32.here hx rfl (hb hby at_211) rfl ?_
              show Steps p.tables e below (T32.setTop (mkF m 213 #[.val (.int p0), .val (.int p1), .val (.int p2), .val (.int p3), .val (.int (Int32.ofNat sz)), .val (.ref b1), .val (.int (1 : Int32)), .val (.int (Int32.ofNat i)), .val (.int (Int32.ofNat j)), .val (.int (1 : Int32)), .val (.int (((p3.toUInt32 >>> ((3 : Int32) &&& 31).toUInt32).toInt32) &&& (3 : Int32)))] [(.int (1 : Int32))])) _
              refine XS.ifNo X32.here hx rfl (hb hby at_213) rfl ((if0 _ _).trans (tlt (by decide : (0 : Int32) < (1 : Int32))).2.2.2) ?_
              show Steps p.tables e below (T32.setTop (mkF m 216 #[.val (.int p0), .val (.int p1), .val (.int p2), .val (.int p3), .val (.int (Int32.ofNat sz)), .val (.ref b1), .val (.int (1 : Int32)), .val (.int (Int32.ofNat i)), .val (.int (Int32.ofNat j)), .val (.int (1 : Int32)), .val (.int (((p3.toUInt32 >>> ((3 : Int32) &&& 31).toUInt32).toInt32) &&& (3 : Int32)))] [])) _
              refine XS.aload X32.here hx rfl (hb hby at_216) rfl rfl ?_
              show Steps p.tables e below (T32.setTop (mkF m 218 #[.val (.int p0), .val (.int p1), .val (.int p2), .val (.int p3), .val (.int (Int32.ofNat sz)), .val (.ref b1), .val (.int (1 : Int32)), .val (.int (Int32.ofNat i)), .val (.int (Int32.ofNat j)), .val (.int (1 : Int32)), .val (.int (((p3.toUInt32 >>> ((3 : Int32) &&& 31).toUInt32).toInt32) &&& (3 : Int32)))] [(.ref b1)])) _
              refine st39.trans ?_
              show Steps p.tables e below (T39.setTop (mkF m 221 #[.val (.int p0), .val (.int p1), .val (.int p2), .val (.int p3), .val (.int (Int32.ofNat sz)), .val (.ref b1), .val (.int (1 : Int32)), .val (.int (Int32.ofNat i)), .val (.int (Int32.ofNat j)), .val (.int (1 : Int32)), .val (.int (((p3.toUInt32 >>> ((3 : Int32) &&& 31).toUInt32).toInt32) &&& (3 : Int32)))] [(.int zz39)])) _
              refine XS.pop X39.here hx rfl (hb hby at_221) rfl rfl ?_
              show Steps p.tables e below (T39.setTop (mkF m 222 #[.val (.int p0), .val (.int p1), .val (.int p2), .val (.int p3), .val (.int (Int32.ofNat sz)), .val (.ref b1), .val (.int (1 : Int32)), .val (.int (Int32.ofNat i)), .val (.int (Int32.ofNat j)), .val (.int (1 : Int32)), .val (.int (((p3.toUInt32 >>> ((3 : Int32) &&& 31).toUInt32).toInt32) &&& (3 : Int32)))] [])) _
              refine XS.iinc X39.here hx rfl (hb hby at_222) rfl (l' := #[.val (.int p0), .val (.int p1), .val (.int p2), .val (.int p3), .val (.int (Int32.ofNat sz)), .val (.ref b1), .val (.int (1 : Int32)), .val (.int (Int32.ofNat i)), .val (.int (Int32.ofNat j)), .val (.int ((1 : Int32) + (-1 : Int32))), .val (.int (((p3.toUInt32 >>> ((3 : Int32) &&& 31).toUInt32).toInt32) &&& (3 : Int32)))]) rfl ?_
              show Steps p.tables e below (T39.setTop (mkF m 225 #[.val (.int p0), .val (.int p1), .val (.int p2), .val (.int p3), .val (.int (Int32.ofNat sz)), .val (.ref b1), .val (.int (1 : Int32)), .val (.int (Int32.ofNat i)), .val (.int (Int32.ofNat j)), .val (.int ((1 : Int32) + (-1 : Int32))), .val (.int (((p3.toUInt32 >>> ((3 : Int32) &&& 31).toUInt32).toInt32) &&& (3 : Int32)))] [])) _
              refine XS.iload X39.here hx rfl (hb hby at_225) rfl ?_
              show Steps p.tables e below (T39.setTop (mkF m 227 #[.val (.int p0), .val (.int p1), .val (.int p2), .val (.int p3), .val (.int (Int32.ofNat sz)), .val (.ref b1), .val (.int (1 : Int32)), .val (.int (Int32.ofNat i)), .val (.int (Int32.ofNat j)), .val (.int ((1 : Int32) + (-1 : Int32))), .val (.int (((p3.toUInt32 >>> ((3 : Int32) &&& 31).toUInt32).toInt32) &&& (3 : Int32)))] [(.int (1 : Int32))])) _
              refine XS.ifNo X39.here hx rfl (hb hby at_227) rfl ((if0 _ _).trans (feq (by decide : ¬ ((1 : Int32) = (0 : Int32)))).1) ?_
              show Steps p.tables e below (T39.setTop (mkF m 230 #[.val (.int p0), .val (.int p1), .val (.int p2), .val (.int p3), .val (.int (Int32.ofNat sz)), .val (.ref b1), .val (.int (1 : Int32)), .val (.int (Int32.ofNat i)), .val (.int (Int32.ofNat j)), .val (.int ((1 : Int32) + (-1 : Int32))), .val (.int (((p3.toUInt32 >>> ((3 : Int32) &&& 31).toUInt32).toInt32) &&& (3 : Int32)))] [])) _
              refine XS.aload X39.here hx rfl (hb hby at_230) rfl rfl ?_
              show Steps p.tables e below (T39.setTop (mkF m 232 #[.val (.int p0), .val (.int p1), .val (.int p2), .val (.int p3), .val (.int (Int32.ofNat sz)), .val (.ref b1), .val (.int (1 : Int32)), .val (.int (Int32.ofNat i)), .val (.int (Int32.ofNat j)), .val (.int ((1 : Int32) + (-1 : Int32))), .val (.int (((p3.toUInt32 >>> ((3 : Int32) &&& 31).toUInt32).toInt32) &&& (3 : Int32)))] [(.ref b1)])) _
              refine st40.trans ?_
              show Steps p.tables e below (T40.setTop (mkF m 235 #[.val (.int p0), .val (.int p1), .val (.int p2), .val (.int p3), .val (.int (Int32.ofNat sz)), .val (.ref b1), .val (.int (1 : Int32)), .val (.int (Int32.ofNat i)), .val (.int (Int32.ofNat j)), .val (.int ((1 : Int32) + (-1 : Int32))), .val (.int (((p3.toUInt32 >>> ((3 : Int32) &&& 31).toUInt32).toInt32) &&& (3 : Int32)))] [(.int (1 : Int32))])) _
              refine XS.iload X40.here hx rfl (hb hby at_235) rfl ?_
              show Steps p.tables e below (T40.setTop (mkF m 237 #[.val (.int p0), .val (.int p1), .val (.int p2), .val (.int p3), .val (.int (Int32.ofNat sz)), .val (.ref b1), .val (.int (1 : Int32)), .val (.int (Int32.ofNat i)), .val (.int (Int32.ofNat j)), .val (.int ((1 : Int32) + (-1 : Int32))), .val (.int (((p3.toUInt32 >>> ((3 : Int32) &&& 31).toUInt32).toInt32) &&& (3 : Int32)))] [(.int ((1 : Int32) + (-1 : Int32))), (.int (1 : Int32))])) _
              refine XS.ifNo X40.here hx rfl (hb hby at_237) rfl ((if0 _ _).trans (teq (by decide)).2) ?_
              show Steps p.tables e below (T40.setTop (mkF m 240 #[.val (.int p0), .val (.int p1), .val (.int p2), .val (.int p3), .val (.int (Int32.ofNat sz)), .val (.ref b1), .val (.int (1 : Int32)), .val (.int (Int32.ofNat i)), .val (.int (Int32.ofNat j)), .val (.int ((1 : Int32) + (-1 : Int32))), .val (.int (((p3.toUInt32 >>> ((3 : Int32) &&& 31).toUInt32).toInt32) &&& (3 : Int32)))] [(.int (1 : Int32))])) _
              refine XS.iconst X40.here hx rfl (hb hby at_240) ?_
              show Steps p.tables e below (T40.setTop (mkF m 241 #[.val (.int p0), .val (.int p1), .val (.int p2), .val (.int p3), .val (.int (Int32.ofNat sz)), .val (.ref b1), .val (.int (1 : Int32)), .val (.int (Int32.ofNat i)), .val (.int (Int32.ofNat j)), .val (.int ((1 : Int32) + (-1 : Int32))), .val (.int (((p3.toUInt32 >>> ((3 : Int32) &&& 31).toUInt32).toInt32) &&& (3 : Int32)))] [(.int (1 : Int32)), (.int (1 : Int32))])) _
              refine XS.goto X40.here hx rfl (pc0 := 241) (pc' := 245) rfl (hb hby at_241) (by decide) (by decide) ?_
              show Steps p.tables e below (T40.setTop (mkF m 245 #[.val (.int p0), .val (.int p1), .val (.int p2), .val (.int p3), .val (.int (Int32.ofNat sz)), .val (.ref b1), .val (.int (1 : Int32)), .val (.int (Int32.ofNat i)), .val (.int (Int32.ofNat j)), .val (.int ((1 : Int32) + (-1 : Int32))), .val (.int (((p3.toUInt32 >>> ((3 : Int32) &&& 31).toUInt32).toInt32) &&& (3 : Int32)))] [(.int (1 : Int32)), (.int (1 : Int32))])) _
              refine XS.icmpNo X40.here hx rfl (hb hby at_245) rfl (teq (by decide : (1 : Int32) = (1 : Int32))).2 ?_
              show Steps p.tables e below (T40.setTop (mkF m 248 #[.val (.int p0), .val (.int p1), .val (.int p2), .val (.int p3), .val (.int (Int32.ofNat sz)), .val (.ref b1), .val (.int (1 : Int32)), .val (.int (Int32.ofNat i)), .val (.int (Int32.ofNat j)), .val (.int ((1 : Int32) + (-1 : Int32))), .val (.int (((p3.toUInt32 >>> ((3 : Int32) &&& 31).toUInt32).toInt32) &&& (3 : Int32)))] [])) _
              refine XS.iconst X40.here hx rfl (hb hby at_248) ?_
              show Steps p.tables e below (T40.setTop (mkF m 249 #[.val (.int p0), .val (.int p1), .val (.int p2), .val (.int p3), .val (.int (Int32.ofNat sz)), .val (.ref b1), .val (.int (1 : Int32)), .val (.int (Int32.ofNat i)), .val (.int (Int32.ofNat j)), .val (.int ((1 : Int32) + (-1 : Int32))), .val (.int (((p3.toUInt32 >>> ((3 : Int32) &&& 31).toUInt32).toInt32) &&& (3 : Int32)))] [(.int (1 : Int32))])) _
              refine XS.goto X40.here hx rfl (pc0 := 249) (pc' := 253) rfl (hb hby at_249) (by decide) (by decide) ?_
              show Steps p.tables e below (T40.setTop (mkF m 253 #[.val (.int p0), .val (.int p1), .val (.int p2), .val (.int p3), .val (.int (Int32.ofNat sz)), .val (.ref b1), .val (.int (1 : Int32)), .val (.int (Int32.ofNat i)), .val (.int (Int32.ofNat j)), .val (.int ((1 : Int32) + (-1 : Int32))), .val (.int (((p3.toUInt32 >>> ((3 : Int32) &&& 31).toUInt32).toInt32) &&& (3 : Int32)))] [(.int (1 : Int32))])) _
              refine XS.istore X40.here hx rfl (hb hby at_253) rfl (l' := #[.val (.int p0), .val (.int p1), .val (.int p2), .val (.int p3), .val (.int (Int32.ofNat sz)), .val (.ref b1), .val (.int (1 : Int32)), .val (.int (Int32.ofNat i)), .val (.int (Int32.ofNat j)), .val (.int ((1 : Int32) + (-1 : Int32))), .val (.int (((p3.toUInt32 >>> ((3 : Int32) &&& 31).toUInt32).toInt32) &&& (3 : Int32)))]) rfl ?_
              show Steps p.tables e below (T40.setTop (mkF m 255 #[.val (.int p0), .val (.int p1), .val (.int p2), .val (.int p3), .val (.int (Int32.ofNat sz)), .val (.ref b1), .val (.int (1 : Int32)), .val (.int (Int32.ofNat i)), .val (.int (Int32.ofNat j)), .val (.int ((1 : Int32) + (-1 : Int32))), .val (.int (((p3.toUInt32 >>> ((3 : Int32) &&& 31).toUInt32).toInt32) &&& (3 : Int32)))] [])) _
              refine XS.iload X40.here hx rfl (hb hby at_255) rfl ?_
              show Steps p.tables e below (T40.setTop (mkF m 257 #[.val (.int p0), .val (.int p1), .val (.int p2), .val (.int p3), .val (.int (Int32.ofNat sz)), .val (.ref b1), .val (.int (1 : Int32)), .val (.int (Int32.ofNat i)), .val (.int (Int32.ofNat j)), .val (.int ((1 : Int32) + (-1 : Int32))), .val (.int (((p3.toUInt32 >>> ((3 : Int32) &&& 31).toUInt32).toInt32) &&& (3 : Int32)))] [(.int (1 : Int32))])) _
              exact retN X40 hx (t := .boolean) Bd.returns (by simp) (hb hby at_257) hr
            · exact ⟨(by first | rfl | simp [hc5, hc10, hc34, hc36, hc38]), N40⟩
        · skip
          obtain ⟨cq41, kq41, q41a, q41b, q41c⟩ := isOf hZ e32 Ex31
          obtain ⟨_, _, ⟨T41, L41, k41, n41⟩, -, X41, ⟨Lc41, hQ41, l41, y41, z41⟩, st41⟩ := X32.virtualBack hx (y := (⟨"com/example/halfword/halfword/verify/RoundRobinSet", "take", "()I"⟩ : MethodName)) (z := (⟨"com/example/halfword/halfword/verify/RoundRobinSet", "take", "()I"⟩ : MethodName)) hown (mvT hZ (hw _ (List.mem_of_getElem? (i := 45) rfl))) (mvT hZ (hw _ (List.mem_of_getElem? (i := 46) rfl))) (notFace_of_selects (args := #[]) (mvT hZ (hw _ (List.mem_of_getElem? (i := 48) rfl)))) (mvT hZ (hw _ (List.mem_of_getElem? (i := 48) rfl))) (mvT hZ (hw _ (List.mem_of_getElem? (i := 47) rfl))) (by decide) (backOf (W := 0) (rTk l Z a0 hw [] b1 sz 0 (Ad (fun _ => False) i) T31.heap n0 (Rr31.le) Rr31 (Cnt.some (c := 0) (Cnt.add0 Cnt.zero i))) hZ (hw _ (List.mem_of_getElem? (i := 49) rfl)) (hw _ (List.mem_of_getElem? (i := 3) rfl)) (by decide) (by decide)) q41a q41c (g := (mkF m 168 #[.val (.int p0), .val (.int p1), .val (.int p2), .val (.int p3), .val (.int (Int32.ofNat sz)), .val (.ref b1), .val (.int (1 : Int32)), .val (.int (Int32.ofNat i)), .val (.int (Int32.ofNat j)), .val (.int (1 : Int32)), .val (.int (((p3.toUInt32 >>> ((3 : Int32) &&& 31).toUInt32).toInt32) &&& (3 : Int32)))] [(.ref b1)])) rfl (by rw [hml]; rfl) (Steps.refl _) (argsL := []) (rest := []) (lenOf pd___I rfl) rfl (by show 2 * 0 + _ ≤ _; exact Nat.le_of_eq rfl) (hb hby at_168) (fun _ _ => ⟨rfl, e32, (by decide : 6 + 0 ≤ _), (by decide : 17415 + 0 ≤ _)⟩)
          dsimp only [Pt.U, Pt.locs, Pt.cells, Pt.slots] at X41 l41 y41 z41 st41 hQ41
          rw [l41, y41, z41] at X41
          obtain ⟨x41, zz41, rfl, N41q, hMx41, Rr41⟩ := hQ41
          have N41 := Fr.app N32 N41q
          have Ex41 := Rr41.ex
          obtain ⟨cq42, kq42, q42a, q42b, q42c⟩ := isOf hZ rfl Ex41
          obtain ⟨_, _, ⟨T42, L42, k42, n42⟩, -, X42, ⟨Lc42, hQ42, l42, y42, z42⟩, st42⟩ := X41.virtualBack hx (y := (⟨"com/example/halfword/halfword/verify/RoundRobinSet", "isEmpty", "()Z"⟩ : MethodName)) (z := (⟨"com/example/halfword/halfword/verify/RoundRobinSet", "isEmpty", "()Z"⟩ : MethodName)) hown (mvT hZ (hw _ (List.mem_of_getElem? (i := 26) rfl))) (mvT hZ (hw _ (List.mem_of_getElem? (i := 27) rfl))) (notFace_of_selects (args := #[]) (mvT hZ (hw _ (List.mem_of_getElem? (i := 29) rfl)))) (mvT hZ (hw _ (List.mem_of_getElem? (i := 29) rfl))) (mvT hZ (hw _ (List.mem_of_getElem? (i := 28) rfl))) (by decide) (backOf (W := 0) (rEm l Z a0 hw [] b1 sz (x41 + 1) (Rm (Ad (fun _ => False) i) x41) (1 : Int32) T41.heap n0 (Rr41.le) Rr41 (Or.inl ⟨rfl, (Cnt.rm (c := 0) (Cnt.add0 Cnt.zero i) hMx41)⟩)) hZ (hw _ (List.mem_of_getElem? (i := 30) rfl)) (hw _ (List.mem_of_getElem? (i := 3) rfl)) (by decide) (by decide)) q42a q42c (g := (mkF m 182 #[.val (.int p0), .val (.int p1), .val (.int p2), .val (.int p3), .val (.int (Int32.ofNat sz)), .val (.ref b1), .val (.int (1 : Int32)), .val (.int (Int32.ofNat i)), .val (.int (Int32.ofNat j)), .val (.int ((1 : Int32) + (-1 : Int32))), .val (.int (((p3.toUInt32 >>> ((3 : Int32) &&& 31).toUInt32).toInt32) &&& (3 : Int32)))] [(.ref b1)])) rfl (by rw [hml]; rfl) (Steps.refl _) (argsL := []) (rest := []) (lenOf pd___Z rfl) rfl (by show 2 * 0 + _ ≤ _; exact Nat.le_of_eq rfl) (hb hby at_182) (fun _ _ => ⟨rfl, rfl, (by decide : 6 + 0 ≤ _), (by decide : 17415 + 0 ≤ _)⟩)
          dsimp only [Pt.U, Pt.locs, Pt.cells, Pt.slots] at X42 l42 y42 z42 st42 hQ42
          rw [l42, y42, z42] at X42
          obtain ⟨rfl, N42q, e42⟩ := hQ42
          have N42 := Fr.app N41 N42q
          have pre43 : ∀ t, Steps p.tables e below (T42.setTop (mkF m 208 #[.val (.int p0), .val (.int p1), .val (.int p2), .val (.int p3), .val (.int (Int32.ofNat sz)), .val (.ref b1), .val (.int (1 : Int32)), .val (.int (Int32.ofNat i)), .val (.int (Int32.ofNat j)), .val (.int ((1 : Int32) + (-1 : Int32))), .val (.int (((p3.toUInt32 >>> ((3 : Int32) &&& 31).toUInt32).toInt32) &&& (3 : Int32)))] [(.int (2 : Int32)), (.int (((p3.toUInt32 >>> ((3 : Int32) &&& 31).toUInt32).toInt32) &&& (3 : Int32)))])) t → Steps p.tables e below (s₁.setTop (entryFrame m #[(.int p0), (.int p1), (.int p2), (.int p3)] maxLocals)) t := by
            intro t kt
            refine pre35 t ?_
            show Steps p.tables e below (T32.setTop (mkF m 158 #[.val (.int p0), .val (.int p1), .val (.int p2), .val (.int p3), .val (.int (Int32.ofNat sz)), .val (.ref b1), .val (.int (1 : Int32)), .val (.int (Int32.ofNat i)), .val (.int (Int32.ofNat j)), .val (.int (1 : Int32)), .val (.int (((p3.toUInt32 >>> ((3 : Int32) &&& 31).toUInt32).toInt32) &&& (3 : Int32)))] [(.int (1 : Int32)), (.int (((p3.toUInt32 >>> ((3 : Int32) &&& 31).toUInt32).toInt32) &&& (3 : Int32)))])) _
            refine XS.icmpNo X32.here hx rfl (hb hby at_158) rfl (flt hc36).1 ?_
            show Steps p.tables e below (T32.setTop (mkF m 161 #[.val (.int p0), .val (.int p1), .val (.int p2), .val (.int p3), .val (.int (Int32.ofNat sz)), .val (.ref b1), .val (.int (1 : Int32)), .val (.int (Int32.ofNat i)), .val (.int (Int32.ofNat j)), .val (.int (1 : Int32)), .val (.int (((p3.toUInt32 >>> ((3 : Int32) &&& 31).toUInt32).toInt32) &&& (3 : Int32)))] [])) _
            refine XS.iload X32.here hx rfl (hb hby at_161) rfl ?_
            show Steps p.tables e below (T32.setTop (mkF m 163 #[.val (.int p0), .val (.int p1), .val (.int p2), .val (.int p3), .val (.int (Int32.ofNat sz)), .val (.ref b1), .val (.int (1 : Int32)), .val (.int (Int32.ofNat i)), .val (.int (Int32.ofNat j)), .val (.int (1 : Int32)), .val (.int (((p3.toUInt32 >>> ((3 : Int32) &&& 31).toUInt32).toInt32) &&& (3 : Int32)))] [(.int (1 : Int32))])) _
            refine XS.ifNo X32.here hx rfl (hb hby at_163) rfl ((if0 _ _).trans (tlt (by decide : (0 : Int32) < (1 : Int32))).2.2.2) ?_
            show Steps p.tables e below (T32.setTop (mkF m 166 #[.val (.int p0), .val (.int p1), .val (.int p2), .val (.int p3), .val (.int (Int32.ofNat sz)), .val (.ref b1), .val (.int (1 : Int32)), .val (.int (Int32.ofNat i)), .val (.int (Int32.ofNat j)), .val (.int (1 : Int32)), .val (.int (((p3.toUInt32 >>> ((3 : Int32) &&& 31).toUInt32).toInt32) &&& (3 : Int32)))] [])) _
            refine XS.aload X32.here hx rfl (hb hby at_166) rfl rfl ?_
            show Steps p.tables e below (T32.setTop (mkF m 168 #[.val (.int p0), .val (.int p1), .val (.int p2), .val (.int p3), .val (.int (Int32.ofNat sz)), .val (.ref b1), .val (.int (1 : Int32)), .val (.int (Int32.ofNat i)), .val (.int (Int32.ofNat j)), .val (.int (1 : Int32)), .val (.int (((p3.toUInt32 >>> ((3 : Int32) &&& 31).toUInt32).toInt32) &&& (3 : Int32)))] [(.ref b1)])) _
            refine st41.trans ?_
            show Steps p.tables e below (T41.setTop (mkF m 171 #[.val (.int p0), .val (.int p1), .val (.int p2), .val (.int p3), .val (.int (Int32.ofNat sz)), .val (.ref b1), .val (.int (1 : Int32)), .val (.int (Int32.ofNat i)), .val (.int (Int32.ofNat j)), .val (.int (1 : Int32)), .val (.int (((p3.toUInt32 >>> ((3 : Int32) &&& 31).toUInt32).toInt32) &&& (3 : Int32)))] [(.int zz41)])) _
            refine XS.pop X41.here hx rfl (hb hby at_171) rfl rfl ?_
            show Steps p.tables e below (T41.setTop (mkF m 172 #[.val (.int p0), .val (.int p1), .val (.int p2), .val (.int p3), .val (.int (Int32.ofNat sz)), .val (.ref b1), .val (.int (1 : Int32)), .val (.int (Int32.ofNat i)), .val (.int (Int32.ofNat j)), .val (.int (1 : Int32)), .val (.int (((p3.toUInt32 >>> ((3 : Int32) &&& 31).toUInt32).toInt32) &&& (3 : Int32)))] [])) _
            refine XS.iinc X41.here hx rfl (hb hby at_172) rfl (l' := #[.val (.int p0), .val (.int p1), .val (.int p2), .val (.int p3), .val (.int (Int32.ofNat sz)), .val (.ref b1), .val (.int (1 : Int32)), .val (.int (Int32.ofNat i)), .val (.int (Int32.ofNat j)), .val (.int ((1 : Int32) + (-1 : Int32))), .val (.int (((p3.toUInt32 >>> ((3 : Int32) &&& 31).toUInt32).toInt32) &&& (3 : Int32)))]) rfl ?_
            show Steps p.tables e below (T41.setTop (mkF m 175 #[.val (.int p0), .val (.int p1), .val (.int p2), .val (.int p3), .val (.int (Int32.ofNat sz)), .val (.ref b1), .val (.int (1 : Int32)), .val (.int (Int32.ofNat i)), .val (.int (Int32.ofNat j)), .val (.int ((1 : Int32) + (-1 : Int32))), .val (.int (((p3.toUInt32 >>> ((3 : Int32) &&& 31).toUInt32).toInt32) &&& (3 : Int32)))] [])) _
            refine XS.iload X41.here hx rfl (hb hby at_175) rfl ?_
            show Steps p.tables e below (T41.setTop (mkF m 177 #[.val (.int p0), .val (.int p1), .val (.int p2), .val (.int p3), .val (.int (Int32.ofNat sz)), .val (.ref b1), .val (.int (1 : Int32)), .val (.int (Int32.ofNat i)), .val (.int (Int32.ofNat j)), .val (.int ((1 : Int32) + (-1 : Int32))), .val (.int (((p3.toUInt32 >>> ((3 : Int32) &&& 31).toUInt32).toInt32) &&& (3 : Int32)))] [(.int (1 : Int32))])) _
            refine XS.ifNo X41.here hx rfl (hb hby at_177) rfl ((if0 _ _).trans (feq (by decide : ¬ ((1 : Int32) = (0 : Int32)))).1) ?_
            show Steps p.tables e below (T41.setTop (mkF m 180 #[.val (.int p0), .val (.int p1), .val (.int p2), .val (.int p3), .val (.int (Int32.ofNat sz)), .val (.ref b1), .val (.int (1 : Int32)), .val (.int (Int32.ofNat i)), .val (.int (Int32.ofNat j)), .val (.int ((1 : Int32) + (-1 : Int32))), .val (.int (((p3.toUInt32 >>> ((3 : Int32) &&& 31).toUInt32).toInt32) &&& (3 : Int32)))] [])) _
            refine XS.aload X41.here hx rfl (hb hby at_180) rfl rfl ?_
            show Steps p.tables e below (T41.setTop (mkF m 182 #[.val (.int p0), .val (.int p1), .val (.int p2), .val (.int p3), .val (.int (Int32.ofNat sz)), .val (.ref b1), .val (.int (1 : Int32)), .val (.int (Int32.ofNat i)), .val (.int (Int32.ofNat j)), .val (.int ((1 : Int32) + (-1 : Int32))), .val (.int (((p3.toUInt32 >>> ((3 : Int32) &&& 31).toUInt32).toInt32) &&& (3 : Int32)))] [(.ref b1)])) _
            refine st42.trans ?_
            show Steps p.tables e below (T42.setTop (mkF m 185 #[.val (.int p0), .val (.int p1), .val (.int p2), .val (.int p3), .val (.int (Int32.ofNat sz)), .val (.ref b1), .val (.int (1 : Int32)), .val (.int (Int32.ofNat i)), .val (.int (Int32.ofNat j)), .val (.int ((1 : Int32) + (-1 : Int32))), .val (.int (((p3.toUInt32 >>> ((3 : Int32) &&& 31).toUInt32).toInt32) &&& (3 : Int32)))] [(.int (1 : Int32))])) _
            refine XS.iload X42.here hx rfl (hb hby at_185) rfl ?_
            show Steps p.tables e below (T42.setTop (mkF m 187 #[.val (.int p0), .val (.int p1), .val (.int p2), .val (.int p3), .val (.int (Int32.ofNat sz)), .val (.ref b1), .val (.int (1 : Int32)), .val (.int (Int32.ofNat i)), .val (.int (Int32.ofNat j)), .val (.int ((1 : Int32) + (-1 : Int32))), .val (.int (((p3.toUInt32 >>> ((3 : Int32) &&& 31).toUInt32).toInt32) &&& (3 : Int32)))] [(.int ((1 : Int32) + (-1 : Int32))), (.int (1 : Int32))])) _
            refine XS.ifNo X42.here hx rfl (hb hby at_187) rfl ((if0 _ _).trans (teq (by decide)).2) ?_
            show Steps p.tables e below (T42.setTop (mkF m 190 #[.val (.int p0), .val (.int p1), .val (.int p2), .val (.int p3), .val (.int (Int32.ofNat sz)), .val (.ref b1), .val (.int (1 : Int32)), .val (.int (Int32.ofNat i)), .val (.int (Int32.ofNat j)), .val (.int ((1 : Int32) + (-1 : Int32))), .val (.int (((p3.toUInt32 >>> ((3 : Int32) &&& 31).toUInt32).toInt32) &&& (3 : Int32)))] [(.int (1 : Int32))])) _
            refine XS.iconst X42.here hx rfl (hb hby at_190) ?_
            show Steps p.tables e below (T42.setTop (mkF m 191 #[.val (.int p0), .val (.int p1), .val (.int p2), .val (.int p3), .val (.int (Int32.ofNat sz)), .val (.ref b1), .val (.int (1 : Int32)), .val (.int (Int32.ofNat i)), .val (.int (Int32.ofNat j)), .val (.int ((1 : Int32) + (-1 : Int32))), .val (.int (((p3.toUInt32 >>> ((3 : Int32) &&& 31).toUInt32).toInt32) &&& (3 : Int32)))] [(.int (1 : Int32)), (.int (1 : Int32))])) _
            refine XS.goto X42.here hx rfl (pc0 := 191) (pc' := 195) rfl (hb hby at_191) (by decide) (by decide) ?_
            show Steps p.tables e below (T42.setTop (mkF m 195 #[.val (.int p0), .val (.int p1), .val (.int p2), .val (.int p3), .val (.int (Int32.ofNat sz)), .val (.ref b1), .val (.int (1 : Int32)), .val (.int (Int32.ofNat i)), .val (.int (Int32.ofNat j)), .val (.int ((1 : Int32) + (-1 : Int32))), .val (.int (((p3.toUInt32 >>> ((3 : Int32) &&& 31).toUInt32).toInt32) &&& (3 : Int32)))] [(.int (1 : Int32)), (.int (1 : Int32))])) _
            refine XS.icmpNo X42.here hx rfl (hb hby at_195) rfl (teq (by decide : (1 : Int32) = (1 : Int32))).2 ?_
            show Steps p.tables e below (T42.setTop (mkF m 198 #[.val (.int p0), .val (.int p1), .val (.int p2), .val (.int p3), .val (.int (Int32.ofNat sz)), .val (.ref b1), .val (.int (1 : Int32)), .val (.int (Int32.ofNat i)), .val (.int (Int32.ofNat j)), .val (.int ((1 : Int32) + (-1 : Int32))), .val (.int (((p3.toUInt32 >>> ((3 : Int32) &&& 31).toUInt32).toInt32) &&& (3 : Int32)))] [])) _
            refine XS.iconst X42.here hx rfl (hb hby at_198) ?_
            show Steps p.tables e below (T42.setTop (mkF m 199 #[.val (.int p0), .val (.int p1), .val (.int p2), .val (.int p3), .val (.int (Int32.ofNat sz)), .val (.ref b1), .val (.int (1 : Int32)), .val (.int (Int32.ofNat i)), .val (.int (Int32.ofNat j)), .val (.int ((1 : Int32) + (-1 : Int32))), .val (.int (((p3.toUInt32 >>> ((3 : Int32) &&& 31).toUInt32).toInt32) &&& (3 : Int32)))] [(.int (1 : Int32))])) _
            refine XS.goto X42.here hx rfl (pc0 := 199) (pc' := 203) rfl (hb hby at_199) (by decide) (by decide) ?_
            show Steps p.tables e below (T42.setTop (mkF m 203 #[.val (.int p0), .val (.int p1), .val (.int p2), .val (.int p3), .val (.int (Int32.ofNat sz)), .val (.ref b1), .val (.int (1 : Int32)), .val (.int (Int32.ofNat i)), .val (.int (Int32.ofNat j)), .val (.int ((1 : Int32) + (-1 : Int32))), .val (.int (((p3.toUInt32 >>> ((3 : Int32) &&& 31).toUInt32).toInt32) &&& (3 : Int32)))] [(.int (1 : Int32))])) _
            refine XS.istore X42.here hx rfl (hb hby at_203) rfl (l' := #[.val (.int p0), .val (.int p1), .val (.int p2), .val (.int p3), .val (.int (Int32.ofNat sz)), .val (.ref b1), .val (.int (1 : Int32)), .val (.int (Int32.ofNat i)), .val (.int (Int32.ofNat j)), .val (.int ((1 : Int32) + (-1 : Int32))), .val (.int (((p3.toUInt32 >>> ((3 : Int32) &&& 31).toUInt32).toInt32) &&& (3 : Int32)))]) rfl ?_
            show Steps p.tables e below (T42.setTop (mkF m 205 #[.val (.int p0), .val (.int p1), .val (.int p2), .val (.int p3), .val (.int (Int32.ofNat sz)), .val (.ref b1), .val (.int (1 : Int32)), .val (.int (Int32.ofNat i)), .val (.int (Int32.ofNat j)), .val (.int ((1 : Int32) + (-1 : Int32))), .val (.int (((p3.toUInt32 >>> ((3 : Int32) &&& 31).toUInt32).toInt32) &&& (3 : Int32)))] [])) _
            refine XS.iload X42.here hx rfl (hb hby at_205) rfl ?_
            show Steps p.tables e below (T42.setTop (mkF m 207 #[.val (.int p0), .val (.int p1), .val (.int p2), .val (.int p3), .val (.int (Int32.ofNat sz)), .val (.ref b1), .val (.int (1 : Int32)), .val (.int (Int32.ofNat i)), .val (.int (Int32.ofNat j)), .val (.int ((1 : Int32) + (-1 : Int32))), .val (.int (((p3.toUInt32 >>> ((3 : Int32) &&& 31).toUInt32).toInt32) &&& (3 : Int32)))] [(.int (((p3.toUInt32 >>> ((3 : Int32) &&& 31).toUInt32).toInt32) &&& (3 : Int32)))])) _
            refine XS.iconst X42.here hx rfl (hb hby at_207) ?_
            exact kt
          by_cases hc44 : (((p3.toUInt32 >>> ((3 : Int32) &&& 31).toUInt32).toInt32) &&& (3 : Int32)) < (2 : Int32)
          · skip
            obtain ⟨fs, hr, hrun, hended, hW, hsame⟩ := X42.leave (v := some (.int (1 : Int32))) (fun h => by rw [Bd.returns] at h; cases h)
            refine ⟨_, _, pre43 _ ?_, hrun, hended, _, _, rfl, ?_, ⟨_, rfl⟩, hW, hsame.mono (by decide) (by decide)⟩
            · skip
              show Steps p.tables e below (T42.setTop (mkF m 208 #[.val (.int p0), .val (.int p1), .val (.int p2), .val (.int p3), .val (.int (Int32.ofNat sz)), .val (.ref b1), .val (.int (1 : Int32)), .val (.int (Int32.ofNat i)), .val (.int (Int32.ofNat j)), .val (.int ((1 : Int32) + (-1 : Int32))), .val (.int (((p3.toUInt32 >>> ((3 : Int32) &&& 31).toUInt32).toInt32) &&& (3 : Int32)))] [(.int (2 : Int32)), (.int (((p3.toUInt32 >>> ((3 : Int32) &&& 31).toUInt32).toInt32) &&& (3 : Int32)))])) _
              refine XS.icmpYes X42.here hx rfl (pc0 := 208) (pc' := 255) rfl (hb hby at_208) rfl (tlt hc44).1 (by decide) (by decide) ?_
              show Steps p.tables e below (T42.setTop (mkF m 255 #[.val (.int p0), .val (.int p1), .val (.int p2), .val (.int p3), .val (.int (Int32.ofNat sz)), .val (.ref b1), .val (.int (1 : Int32)), .val (.int (Int32.ofNat i)), .val (.int (Int32.ofNat j)), .val (.int ((1 : Int32) + (-1 : Int32))), .val (.int (((p3.toUInt32 >>> ((3 : Int32) &&& 31).toUInt32).toInt32) &&& (3 : Int32)))] [])) _
              refine XS.iload X42.here hx rfl (hb hby at_255) rfl ?_
              show Steps p.tables e below (T42.setTop (mkF m 257 #[.val (.int p0), .val (.int p1), .val (.int p2), .val (.int p3), .val (.int (Int32.ofNat sz)), .val (.ref b1), .val (.int (1 : Int32)), .val (.int (Int32.ofNat i)), .val (.int (Int32.ofNat j)), .val (.int ((1 : Int32) + (-1 : Int32))), .val (.int (((p3.toUInt32 >>> ((3 : Int32) &&& 31).toUInt32).toInt32) &&& (3 : Int32)))] [(.int (1 : Int32))])) _
              exact retN X42 hx (t := .boolean) Bd.returns (by simp) (hb hby at_257) hr
            · exact ⟨(by first | rfl | simp [hc5, hc10, hc34, hc36, hc44]), N42⟩
          · skip
            obtain ⟨fs, hr, hrun, hended, hW, hsame⟩ := X42.leave (v := some (.int (1 : Int32))) (fun h => by rw [Bd.returns] at h; cases h)
            refine ⟨_, _, pre43 _ ?_, hrun, hended, _, _, rfl, ?_, ⟨_, rfl⟩, hW, hsame.mono (by decide) (by decide)⟩
            · skip
              show Steps p.tables e below (T42.setTop (mkF m 208 #[.val (.int p0), .val (.int p1), .val (.int p2), .val (.int p3), .val (.int (Int32.ofNat sz)), .val (.ref b1), .val (.int (1 : Int32)), .val (.int (Int32.ofNat i)), .val (.int (Int32.ofNat j)), .val (.int ((1 : Int32) + (-1 : Int32))), .val (.int (((p3.toUInt32 >>> ((3 : Int32) &&& 31).toUInt32).toInt32) &&& (3 : Int32)))] [(.int (2 : Int32)), (.int (((p3.toUInt32 >>> ((3 : Int32) &&& 31).toUInt32).toInt32) &&& (3 : Int32)))])) _
              refine XS.icmpNo X42.here hx rfl (hb hby at_208) rfl (flt hc44).1 ?_
              show Steps p.tables e below (T42.setTop (mkF m 211 #[.val (.int p0), .val (.int p1), .val (.int p2), .val (.int p3), .val (.int (Int32.ofNat sz)), .val (.ref b1), .val (.int (1 : Int32)), .val (.int (Int32.ofNat i)), .val (.int (Int32.ofNat j)), .val (.int ((1 : Int32) + (-1 : Int32))), .val (.int (((p3.toUInt32 >>> ((3 : Int32) &&& 31).toUInt32).toInt32) &&& (3 : Int32)))] [])) _
              refine XS.iload X42.here hx rfl (hb hby at_211) rfl ?_
              show Steps p.tables e below (T42.setTop (mkF m 213 #[.val (.int p0), .val (.int p1), .val (.int p2), .val (.int p3), .val (.int (Int32.ofNat sz)), .val (.ref b1), .val (.int (1 : Int32)), .val (.int (Int32.ofNat i)), .val (.int (Int32.ofNat j)), .val (.int ((1 : Int32) + (-1 : Int32))), .val (.int (((p3.toUInt32 >>> ((3 : Int32) &&& 31).toUInt32).toInt32) &&& (3 : Int32)))] [(.int ((1 : Int32) + (-1 : Int32)))])) _
              refine XS.ifYes X42.here hx rfl (pc0 := 213) (pc' := 255) rfl (hb hby at_213) rfl ((if0 _ _).trans (flt (by decide)).2.2.2) (by decide) (by decide) ?_
              show Steps p.tables e below (T42.setTop (mkF m 255 #[.val (.int p0), .val (.int p1), .val (.int p2), .val (.int p3), .val (.int (Int32.ofNat sz)), .val (.ref b1), .val (.int (1 : Int32)), .val (.int (Int32.ofNat i)), .val (.int (Int32.ofNat j)), .val (.int ((1 : Int32) + (-1 : Int32))), .val (.int (((p3.toUInt32 >>> ((3 : Int32) &&& 31).toUInt32).toInt32) &&& (3 : Int32)))] [])) _
              refine XS.iload X42.here hx rfl (hb hby at_255) rfl ?_
              show Steps p.tables e below (T42.setTop (mkF m 257 #[.val (.int p0), .val (.int p1), .val (.int p2), .val (.int p3), .val (.int (Int32.ofNat sz)), .val (.ref b1), .val (.int (1 : Int32)), .val (.int (Int32.ofNat i)), .val (.int (Int32.ofNat j)), .val (.int ((1 : Int32) + (-1 : Int32))), .val (.int (((p3.toUInt32 >>> ((3 : Int32) &&& 31).toUInt32).toInt32) &&& (3 : Int32)))] [(.int (1 : Int32))])) _
              exact retN X42 hx (t := .boolean) Bd.returns (by simp) (hb hby at_257) hr
            · exact ⟨(by first | rfl | simp [hc5, hc10, hc34, hc36, hc44]), N42⟩
      · skip
        obtain ⟨cq45, kq45, q45a, q45b, q45c⟩ := isOf hZ e32 Ex31
        obtain ⟨_, _, ⟨T45, L45, k45, n45⟩, -, X45, ⟨Lc45, hQ45, l45, y45, z45⟩, st45⟩ := X32.virtualBack hx (y := (⟨"com/example/halfword/halfword/verify/RoundRobinSet", "add", "(I)V"⟩ : MethodName)) (z := (⟨"com/example/halfword/halfword/verify/RoundRobinSet", "add", "(I)V"⟩ : MethodName)) hown (mvT hZ (hw _ (List.mem_of_getElem? (i := 32) rfl))) (mvT hZ (hw _ (List.mem_of_getElem? (i := 33) rfl))) (notFace_of_selects (args := #[]) (mvT hZ (hw _ (List.mem_of_getElem? (i := 35) rfl)))) (mvT hZ (hw _ (List.mem_of_getElem? (i := 35) rfl))) (mvT hZ (hw _ (List.mem_of_getElem? (i := 34) rfl))) (by decide) (backOf (W := 0) (rAdd l Z a0 hw [] b1 sz 0 j (Ad (fun _ => False) i) T31.heap n0 (Rr31.le) Rr31 hj) hZ (hw _ (List.mem_of_getElem? (i := 36) rfl)) (hw _ (List.mem_of_getElem? (i := 3) rfl)) (by decide) (by decide)) q45a q45c (g := (mkF m 110 #[.val (.int p0), .val (.int p1), .val (.int p2), .val (.int p3), .val (.int (Int32.ofNat sz)), .val (.ref b1), .val (.int (1 : Int32)), .val (.int (Int32.ofNat i)), .val (.int (Int32.ofNat j)), .val (.int (1 : Int32)), .unset] [(.int (Int32.ofNat j)), (.ref b1)])) rfl (by rw [hml]; rfl) (Steps.refl _) (argsL := [(.int (Int32.ofNat j))]) (rest := []) (lenOf pd__I_V rfl) rfl (by show 2 * 0 + _ ≤ _; exact Nat.le_of_eq rfl) (hb hby at_110) (fun _ _ => ⟨rfl, e32, (by decide : 6 + 0 ≤ _), (by decide : 17415 + 0 ≤ _)⟩)
        dsimp only [Pt.U, Pt.locs, Pt.cells, Pt.slots] at X45 l45 y45 z45 st45 hQ45
        rw [l45, y45, z45] at X45
        obtain ⟨rfl, N45q, Rr45⟩ := hQ45
        have N45 := Fr.app N32 N45q
        have Ex45 := Rr45.ex
        have pre46 : ∀ t, Steps p.tables e below (T45.setTop (mkF m 122 #[.val (.int p0), .val (.int p1), .val (.int p2), .val (.int p3), .val (.int (Int32.ofNat sz)), .val (.ref b1), .val (.int (1 : Int32)), .val (.int (Int32.ofNat i)), .val (.int (Int32.ofNat j)), .val (.int (1 : Int32)), .unset] [(.int (Int32.ofNat i)), (.int (Int32.ofNat j))])) t → Steps p.tables e below (s₁.setTop (entryFrame m #[(.int p0), (.int p1), (.int p2), (.int p3)] maxLocals)) t := by
          intro t kt
          refine pre33 t ?_
          show Steps p.tables e below (T32.setTop (mkF m 103 #[.val (.int p0), .val (.int p1), .val (.int p2), .val (.int p3), .val (.int (Int32.ofNat sz)), .val (.ref b1), .val (.int (1 : Int32)), .val (.int (Int32.ofNat i)), .val (.int (Int32.ofNat j)), .val (.int (1 : Int32)), .unset] [(.int (p3 &&& (4 : Int32)))])) _
          refine XS.ifNo X32.here hx rfl (hb hby at_103) rfl ((if0 _ _).trans (feq hc34).1) ?_
          show Steps p.tables e below (T32.setTop (mkF m 106 #[.val (.int p0), .val (.int p1), .val (.int p2), .val (.int p3), .val (.int (Int32.ofNat sz)), .val (.ref b1), .val (.int (1 : Int32)), .val (.int (Int32.ofNat i)), .val (.int (Int32.ofNat j)), .val (.int (1 : Int32)), .unset] [])) _
          refine XS.aload X32.here hx rfl (hb hby at_106) rfl rfl ?_
          show Steps p.tables e below (T32.setTop (mkF m 108 #[.val (.int p0), .val (.int p1), .val (.int p2), .val (.int p3), .val (.int (Int32.ofNat sz)), .val (.ref b1), .val (.int (1 : Int32)), .val (.int (Int32.ofNat i)), .val (.int (Int32.ofNat j)), .val (.int (1 : Int32)), .unset] [(.ref b1)])) _
          refine XS.iload X32.here hx rfl (hb hby at_108) rfl ?_
          show Steps p.tables e below (T32.setTop (mkF m 110 #[.val (.int p0), .val (.int p1), .val (.int p2), .val (.int p3), .val (.int (Int32.ofNat sz)), .val (.ref b1), .val (.int (1 : Int32)), .val (.int (Int32.ofNat i)), .val (.int (Int32.ofNat j)), .val (.int (1 : Int32)), .unset] [(.int (Int32.ofNat j)), (.ref b1)])) _
          refine st45.trans ?_
          show Steps p.tables e below (T45.setTop (mkF m 113 #[.val (.int p0), .val (.int p1), .val (.int p2), .val (.int p3), .val (.int (Int32.ofNat sz)), .val (.ref b1), .val (.int (1 : Int32)), .val (.int (Int32.ofNat i)), .val (.int (Int32.ofNat j)), .val (.int (1 : Int32)), .unset] [])) _
          refine XS.iload X45.here hx rfl (hb hby at_113) rfl ?_
          show Steps p.tables e below (T45.setTop (mkF m 115 #[.val (.int p0), .val (.int p1), .val (.int p2), .val (.int p3), .val (.int (Int32.ofNat sz)), .val (.ref b1), .val (.int (1 : Int32)), .val (.int (Int32.ofNat i)), .val (.int (Int32.ofNat j)), .val (.int (1 : Int32)), .unset] [(.int (1 : Int32))])) _
          refine XS.ifNo X45.here hx rfl (hb hby at_115) rfl ((if0 _ _).trans (feq (by decide : ¬ ((1 : Int32) = (0 : Int32)))).1) ?_
          show Steps p.tables e below (T45.setTop (mkF m 118 #[.val (.int p0), .val (.int p1), .val (.int p2), .val (.int p3), .val (.int (Int32.ofNat sz)), .val (.ref b1), .val (.int (1 : Int32)), .val (.int (Int32.ofNat i)), .val (.int (Int32.ofNat j)), .val (.int (1 : Int32)), .unset] [])) _
          refine XS.iload X45.here hx rfl (hb hby at_118) rfl ?_
          show Steps p.tables e below (T45.setTop (mkF m 120 #[.val (.int p0), .val (.int p1), .val (.int p2), .val (.int p3), .val (.int (Int32.ofNat sz)), .val (.ref b1), .val (.int (1 : Int32)), .val (.int (Int32.ofNat i)), .val (.int (Int32.ofNat j)), .val (.int (1 : Int32)), .unset] [(.int (Int32.ofNat j))])) _
          refine XS.iload X45.here hx rfl (hb hby at_120) rfl ?_
          exact kt
        by_cases hc47 : (Int32.ofNat j) = (Int32.ofNat i)
        · skip
          have hc47' : j = i := (own_inj (by omega) (by omega)).mp hc47
          obtain ⟨cq48, kq48, q48a, q48b, q48c⟩ := isOf hZ rfl Ex45
          obtain ⟨_, _, ⟨T48, L48, k48, n48⟩, -, X48, ⟨Lc48, hQ48, l48, y48, z48⟩, st48⟩ := X45.virtualBack hx (y := (⟨"com/example/halfword/halfword/verify/RoundRobinSet", "isEmpty", "()Z"⟩ : MethodName)) (z := (⟨"com/example/halfword/halfword/verify/RoundRobinSet", "isEmpty", "()Z"⟩ : MethodName)) hown (mvT hZ (hw _ (List.mem_of_getElem? (i := 26) rfl))) (mvT hZ (hw _ (List.mem_of_getElem? (i := 27) rfl))) (notFace_of_selects (args := #[]) (mvT hZ (hw _ (List.mem_of_getElem? (i := 29) rfl)))) (mvT hZ (hw _ (List.mem_of_getElem? (i := 29) rfl))) (mvT hZ (hw _ (List.mem_of_getElem? (i := 28) rfl))) (by decide) (backOf (W := 0) (rEm l Z a0 hw [] b1 sz 0 (Ad (Ad (fun _ => False) i) j) (0 : Int32) T45.heap n0 (Rr45.le) Rr45 (Or.inr ⟨rfl, Cnt.some (c := 0) (Cnt.same' hc47')⟩)) hZ (hw _ (List.mem_of_getElem? (i := 30) rfl)) (hw _ (List.mem_of_getElem? (i := 3) rfl)) (by decide) (by decide)) q48a q48c (g := (mkF m 135 #[.val (.int p0), .val (.int p1), .val (.int p2), .val (.int p3), .val (.int (Int32.ofNat sz)), .val (.ref b1), .val (.int (1 : Int32)), .val (.int (Int32.ofNat i)), .val (.int (Int32.ofNat j)), .val (.int (1 : Int32)), .unset] [(.ref b1)])) rfl (by rw [hml]; rfl) (Steps.refl _) (argsL := []) (rest := []) (lenOf pd___Z rfl) rfl (by show 2 * 0 + _ ≤ _; exact Nat.le_of_eq rfl) (hb hby at_135) (fun _ _ => ⟨rfl, rfl, (by decide : 6 + 0 ≤ _), (by decide : 17415 + 0 ≤ _)⟩)
          dsimp only [Pt.U, Pt.locs, Pt.cells, Pt.slots] at X48 l48 y48 z48 st48 hQ48
          rw [l48, y48, z48] at X48
          obtain ⟨rfl, N48q, e48⟩ := hQ48
          have N48 := Fr.app N45 N48q
          have pre49 : ∀ t, Steps p.tables e below (T48.setTop (mkF m 158 #[.val (.int p0), .val (.int p1), .val (.int p2), .val (.int p3), .val (.int (Int32.ofNat sz)), .val (.ref b1), .val (.int (1 : Int32)), .val (.int (Int32.ofNat i)), .val (.int (Int32.ofNat j)), .val (.int (1 : Int32)), .val (.int (((p3.toUInt32 >>> ((3 : Int32) &&& 31).toUInt32).toInt32) &&& (3 : Int32)))] [(.int (1 : Int32)), (.int (((p3.toUInt32 >>> ((3 : Int32) &&& 31).toUInt32).toInt32) &&& (3 : Int32)))])) t → Steps p.tables e below (s₁.setTop (entryFrame m #[(.int p0), (.int p1), (.int p2), (.int p3)] maxLocals)) t := by
            intro t kt
            refine pre46 t ?_
            show Steps p.tables e below (T45.setTop (mkF m 122 #[.val (.int p0), .val (.int p1), .val (.int p2), .val (.int p3), .val (.int (Int32.ofNat sz)), .val (.ref b1), .val (.int (1 : Int32)), .val (.int (Int32.ofNat i)), .val (.int (Int32.ofNat j)), .val (.int (1 : Int32)), .unset] [(.int (Int32.ofNat i)), (.int (Int32.ofNat j))])) _
            refine XS.icmpYes X45.here hx rfl (pc0 := 122) (pc' := 128) rfl (hb hby at_122) rfl (teq hc47).1 (by decide) (by decide) ?_
            show Steps p.tables e below (T45.setTop (mkF m 128 #[.val (.int p0), .val (.int p1), .val (.int p2), .val (.int p3), .val (.int (Int32.ofNat sz)), .val (.ref b1), .val (.int (1 : Int32)), .val (.int (Int32.ofNat i)), .val (.int (Int32.ofNat j)), .val (.int (1 : Int32)), .unset] [])) _
            refine XS.iload X45.here hx rfl (hb hby at_128) rfl ?_
            show Steps p.tables e below (T45.setTop (mkF m 130 #[.val (.int p0), .val (.int p1), .val (.int p2), .val (.int p3), .val (.int (Int32.ofNat sz)), .val (.ref b1), .val (.int (1 : Int32)), .val (.int (Int32.ofNat i)), .val (.int (Int32.ofNat j)), .val (.int (1 : Int32)), .unset] [(.int (1 : Int32))])) _
            refine XS.ifNo X45.here hx rfl (hb hby at_130) rfl ((if0 _ _).trans (feq (by decide : ¬ ((1 : Int32) = (0 : Int32)))).1) ?_
            show Steps p.tables e below (T45.setTop (mkF m 133 #[.val (.int p0), .val (.int p1), .val (.int p2), .val (.int p3), .val (.int (Int32.ofNat sz)), .val (.ref b1), .val (.int (1 : Int32)), .val (.int (Int32.ofNat i)), .val (.int (Int32.ofNat j)), .val (.int (1 : Int32)), .unset] [])) _
            refine XS.aload X45.here hx rfl (hb hby at_133) rfl rfl ?_
            show Steps p.tables e below (T45.setTop (mkF m 135 #[.val (.int p0), .val (.int p1), .val (.int p2), .val (.int p3), .val (.int (Int32.ofNat sz)), .val (.ref b1), .val (.int (1 : Int32)), .val (.int (Int32.ofNat i)), .val (.int (Int32.ofNat j)), .val (.int (1 : Int32)), .unset] [(.ref b1)])) _
            refine st48.trans ?_
            show Steps p.tables e below (T48.setTop (mkF m 138 #[.val (.int p0), .val (.int p1), .val (.int p2), .val (.int p3), .val (.int (Int32.ofNat sz)), .val (.ref b1), .val (.int (1 : Int32)), .val (.int (Int32.ofNat i)), .val (.int (Int32.ofNat j)), .val (.int (1 : Int32)), .unset] [(.int (0 : Int32))])) _
            refine XS.ifNo X48.here hx rfl (hb hby at_138) rfl ((if0 _ _).trans (teq (by decide : (0 : Int32) = (0 : Int32))).2) ?_
            show Steps p.tables e below (T48.setTop (mkF m 141 #[.val (.int p0), .val (.int p1), .val (.int p2), .val (.int p3), .val (.int (Int32.ofNat sz)), .val (.ref b1), .val (.int (1 : Int32)), .val (.int (Int32.ofNat i)), .val (.int (Int32.ofNat j)), .val (.int (1 : Int32)), .unset] [])) _
            refine XS.iconst X48.here hx rfl (hb hby at_141) ?_
            show Steps p.tables e below (T48.setTop (mkF m 142 #[.val (.int p0), .val (.int p1), .val (.int p2), .val (.int p3), .val (.int (Int32.ofNat sz)), .val (.ref b1), .val (.int (1 : Int32)), .val (.int (Int32.ofNat i)), .val (.int (Int32.ofNat j)), .val (.int (1 : Int32)), .unset] [(.int (1 : Int32))])) _
            refine XS.goto X48.here hx rfl (pc0 := 142) (pc' := 146) rfl (hb hby at_142) (by decide) (by decide) ?_
            show Steps p.tables e below (T48.setTop (mkF m 146 #[.val (.int p0), .val (.int p1), .val (.int p2), .val (.int p3), .val (.int (Int32.ofNat sz)), .val (.ref b1), .val (.int (1 : Int32)), .val (.int (Int32.ofNat i)), .val (.int (Int32.ofNat j)), .val (.int (1 : Int32)), .unset] [(.int (1 : Int32))])) _
            refine XS.istore X48.here hx rfl (hb hby at_146) rfl (l' := #[.val (.int p0), .val (.int p1), .val (.int p2), .val (.int p3), .val (.int (Int32.ofNat sz)), .val (.ref b1), .val (.int (1 : Int32)), .val (.int (Int32.ofNat i)), .val (.int (Int32.ofNat j)), .val (.int (1 : Int32)), .unset]) rfl ?_
            show Steps p.tables e below (T48.setTop (mkF m 148 #[.val (.int p0), .val (.int p1), .val (.int p2), .val (.int p3), .val (.int (Int32.ofNat sz)), .val (.ref b1), .val (.int (1 : Int32)), .val (.int (Int32.ofNat i)), .val (.int (Int32.ofNat j)), .val (.int (1 : Int32)), .unset] [])) _
            refine XS.iloadN X48.here hx rfl (hb hby at_148) rfl ?_
            show Steps p.tables e below (T48.setTop (mkF m 149 #[.val (.int p0), .val (.int p1), .val (.int p2), .val (.int p3), .val (.int (Int32.ofNat sz)), .val (.ref b1), .val (.int (1 : Int32)), .val (.int (Int32.ofNat i)), .val (.int (Int32.ofNat j)), .val (.int (1 : Int32)), .unset] [(.int p3)])) _
            refine XS.iconst X48.here hx rfl (hb hby at_149) ?_
            show Steps p.tables e below (T48.setTop (mkF m 150 #[.val (.int p0), .val (.int p1), .val (.int p2), .val (.int p3), .val (.int (Int32.ofNat sz)), .val (.ref b1), .val (.int (1 : Int32)), .val (.int (Int32.ofNat i)), .val (.int (Int32.ofNat j)), .val (.int (1 : Int32)), .unset] [(.int (3 : Int32)), (.int p3)])) _
            refine XS.iushr X48.here hx rfl (hb hby at_150) rfl ?_
            show Steps p.tables e below (T48.setTop (mkF m 151 #[.val (.int p0), .val (.int p1), .val (.int p2), .val (.int p3), .val (.int (Int32.ofNat sz)), .val (.ref b1), .val (.int (1 : Int32)), .val (.int (Int32.ofNat i)), .val (.int (Int32.ofNat j)), .val (.int (1 : Int32)), .unset] [(.int ((p3.toUInt32 >>> ((3 : Int32) &&& 31).toUInt32).toInt32))])) _
            refine XS.iconst X48.here hx rfl (hb hby at_151) ?_
            show Steps p.tables e below (T48.setTop (mkF m 152 #[.val (.int p0), .val (.int p1), .val (.int p2), .val (.int p3), .val (.int (Int32.ofNat sz)), .val (.ref b1), .val (.int (1 : Int32)), .val (.int (Int32.ofNat i)), .val (.int (Int32.ofNat j)), .val (.int (1 : Int32)), .unset] [(.int (3 : Int32)), (.int ((p3.toUInt32 >>> ((3 : Int32) &&& 31).toUInt32).toInt32))])) _
            refine XS.iand X48.here hx rfl (hb hby at_152) rfl ?_
            show Steps p.tables e below (T48.setTop (mkF m 153 #[.val (.int p0), .val (.int p1), .val (.int p2), .val (.int p3), .val (.int (Int32.ofNat sz)), .val (.ref b1), .val (.int (1 : Int32)), .val (.int (Int32.ofNat i)), .val (.int (Int32.ofNat j)), .val (.int (1 : Int32)), .unset] [(.int (((p3.toUInt32 >>> ((3 : Int32) &&& 31).toUInt32).toInt32) &&& (3 : Int32)))])) _
            refine XS.istore X48.here hx rfl (hb hby at_153) rfl (l' := #[.val (.int p0), .val (.int p1), .val (.int p2), .val (.int p3), .val (.int (Int32.ofNat sz)), .val (.ref b1), .val (.int (1 : Int32)), .val (.int (Int32.ofNat i)), .val (.int (Int32.ofNat j)), .val (.int (1 : Int32)), .val (.int (((p3.toUInt32 >>> ((3 : Int32) &&& 31).toUInt32).toInt32) &&& (3 : Int32)))]) rfl ?_
            show Steps p.tables e below (T48.setTop (mkF m 155 #[.val (.int p0), .val (.int p1), .val (.int p2), .val (.int p3), .val (.int (Int32.ofNat sz)), .val (.ref b1), .val (.int (1 : Int32)), .val (.int (Int32.ofNat i)), .val (.int (Int32.ofNat j)), .val (.int (1 : Int32)), .val (.int (((p3.toUInt32 >>> ((3 : Int32) &&& 31).toUInt32).toInt32) &&& (3 : Int32)))] [])) _
            refine XS.iload X48.here hx rfl (hb hby at_155) rfl ?_
            show Steps p.tables e below (T48.setTop (mkF m 157 #[.val (.int p0), .val (.int p1), .val (.int p2), .val (.int p3), .val (.int (Int32.ofNat sz)), .val (.ref b1), .val (.int (1 : Int32)), .val (.int (Int32.ofNat i)), .val (.int (Int32.ofNat j)), .val (.int (1 : Int32)), .val (.int (((p3.toUInt32 >>> ((3 : Int32) &&& 31).toUInt32).toInt32) &&& (3 : Int32)))] [(.int (((p3.toUInt32 >>> ((3 : Int32) &&& 31).toUInt32).toInt32) &&& (3 : Int32)))])) _
            refine XS.iconst X48.here hx rfl (hb hby at_157) ?_
            exact kt
          by_cases hc50 : (((p3.toUInt32 >>> ((3 : Int32) &&& 31).toUInt32).toInt32) &&& (3 : Int32)) < (1 : Int32)
          · skip
            have pre51 : ∀ t, Steps p.tables e below (T48.setTop (mkF m 208 #[.val (.int p0), .val (.int p1), .val (.int p2), .val (.int p3), .val (.int (Int32.ofNat sz)), .val (.ref b1), .val (.int (1 : Int32)), .val (.int (Int32.ofNat i)), .val (.int (Int32.ofNat j)), .val (.int (1 : Int32)), .val (.int (((p3.toUInt32 >>> ((3 : Int32) &&& 31).toUInt32).toInt32) &&& (3 : Int32)))] [(.int (2 : Int32)), (.int (((p3.toUInt32 >>> ((3 : Int32) &&& 31).toUInt32).toInt32) &&& (3 : Int32)))])) t → Steps p.tables e below (s₁.setTop (entryFrame m #[(.int p0), (.int p1), (.int p2), (.int p3)] maxLocals)) t := by
              intro t kt
              refine pre49 t ?_
              show Steps p.tables e below (T48.setTop (mkF m 158 #[.val (.int p0), .val (.int p1), .val (.int p2), .val (.int p3), .val (.int (Int32.ofNat sz)), .val (.ref b1), .val (.int (1 : Int32)), .val (.int (Int32.ofNat i)), .val (.int (Int32.ofNat j)), .val (.int (1 : Int32)), .val (.int (((p3.toUInt32 >>> ((3 : Int32) &&& 31).toUInt32).toInt32) &&& (3 : Int32)))] [(.int (1 : Int32)), (.int (((p3.toUInt32 >>> ((3 : Int32) &&& 31).toUInt32).toInt32) &&& (3 : Int32)))])) _
              refine XS.icmpYes X48.here hx rfl (pc0 := 158) (pc' := 205) rfl (hb hby at_158) rfl (tlt hc50).1 (by decide) (by decide) ?_
              show Steps p.tables e below (T48.setTop (mkF m 205 #[.val (.int p0), .val (.int p1), .val (.int p2), .val (.int p3), .val (.int (Int32.ofNat sz)), .val (.ref b1), .val (.int (1 : Int32)), .val (.int (Int32.ofNat i)), .val (.int (Int32.ofNat j)), .val (.int (1 : Int32)), .val (.int (((p3.toUInt32 >>> ((3 : Int32) &&& 31).toUInt32).toInt32) &&& (3 : Int32)))] [])) _
              refine XS.iload X48.here hx rfl (hb hby at_205) rfl ?_
              show Steps p.tables e below (T48.setTop (mkF m 207 #[.val (.int p0), .val (.int p1), .val (.int p2), .val (.int p3), .val (.int (Int32.ofNat sz)), .val (.ref b1), .val (.int (1 : Int32)), .val (.int (Int32.ofNat i)), .val (.int (Int32.ofNat j)), .val (.int (1 : Int32)), .val (.int (((p3.toUInt32 >>> ((3 : Int32) &&& 31).toUInt32).toInt32) &&& (3 : Int32)))] [(.int (((p3.toUInt32 >>> ((3 : Int32) &&& 31).toUInt32).toInt32) &&& (3 : Int32)))])) _
              refine XS.iconst X48.here hx rfl (hb hby at_207) ?_
              exact kt
            by_cases hc52 : (((p3.toUInt32 >>> ((3 : Int32) &&& 31).toUInt32).toInt32) &&& (3 : Int32)) < (2 : Int32)
            · skip
              obtain ⟨fs, hr, hrun, hended, hW, hsame⟩ := X48.leave (v := some (.int (1 : Int32))) (fun h => by rw [Bd.returns] at h; cases h)
              refine ⟨_, _, pre51 _ ?_, hrun, hended, _, _, rfl, ?_, ⟨_, rfl⟩, hW, hsame.mono (by decide) (by decide)⟩
              · skip
                show Steps p.tables e below (T48.setTop (mkF m 208 #[.val (.int p0), .val (.int p1), .val (.int p2), .val (.int p3), .val (.int (Int32.ofNat sz)), .val (.ref b1), .val (.int (1 : Int32)), .val (.int (Int32.ofNat i)), .val (.int (Int32.ofNat j)), .val (.int (1 : Int32)), .val (.int (((p3.toUInt32 >>> ((3 : Int32) &&& 31).toUInt32).toInt32) &&& (3 : Int32)))] [(.int (2 : Int32)), (.int (((p3.toUInt32 >>> ((3 : Int32) &&& 31).toUInt32).toInt32) &&& (3 : Int32)))])) _
                refine XS.icmpYes X48.here hx rfl (pc0 := 208) (pc' := 255) rfl (hb hby at_208) rfl (tlt hc52).1 (by decide) (by decide) ?_
                show Steps p.tables e below (T48.setTop (mkF m 255 #[.val (.int p0), .val (.int p1), .val (.int p2), .val (.int p3), .val (.int (Int32.ofNat sz)), .val (.ref b1), .val (.int (1 : Int32)), .val (.int (Int32.ofNat i)), .val (.int (Int32.ofNat j)), .val (.int (1 : Int32)), .val (.int (((p3.toUInt32 >>> ((3 : Int32) &&& 31).toUInt32).toInt32) &&& (3 : Int32)))] [])) _
                refine XS.iload X48.here hx rfl (hb hby at_255) rfl ?_
                show Steps p.tables e below (T48.setTop (mkF m 257 #[.val (.int p0), .val (.int p1), .val (.int p2), .val (.int p3), .val (.int (Int32.ofNat sz)), .val (.ref b1), .val (.int (1 : Int32)), .val (.int (Int32.ofNat i)), .val (.int (Int32.ofNat j)), .val (.int (1 : Int32)), .val (.int (((p3.toUInt32 >>> ((3 : Int32) &&& 31).toUInt32).toInt32) &&& (3 : Int32)))] [(.int (1 : Int32))])) _
                exact retN X48 hx (t := .boolean) Bd.returns (by simp) (hb hby at_257) hr
              · exact ⟨(by first | rfl | simp [hc5, hc10, hc34, hc47, hc50, hc52]), N48⟩
            · skip
              obtain ⟨cq53, kq53, q53a, q53b, q53c⟩ := isOf hZ e48 Ex45
              obtain ⟨_, _, ⟨T53, L53, k53, n53⟩, -, X53, ⟨Lc53, hQ53, l53, y53, z53⟩, st53⟩ := X48.virtualBack hx (y := (⟨"com/example/halfword/halfword/verify/RoundRobinSet", "take", "()I"⟩ : MethodName)) (z := (⟨"com/example/halfword/halfword/verify/RoundRobinSet", "take", "()I"⟩ : MethodName)) hown (mvT hZ (hw _ (List.mem_of_getElem? (i := 45) rfl))) (mvT hZ (hw _ (List.mem_of_getElem? (i := 46) rfl))) (notFace_of_selects (args := #[]) (mvT hZ (hw _ (List.mem_of_getElem? (i := 48) rfl)))) (mvT hZ (hw _ (List.mem_of_getElem? (i := 48) rfl))) (mvT hZ (hw _ (List.mem_of_getElem? (i := 47) rfl))) (by decide) (backOf (W := 0) (rTk l Z a0 hw [] b1 sz 0 (Ad (Ad (fun _ => False) i) j) T45.heap n0 (Rr45.le) Rr45 (Cnt.some (c := 0) (Cnt.same' hc47'))) hZ (hw _ (List.mem_of_getElem? (i := 49) rfl)) (hw _ (List.mem_of_getElem? (i := 3) rfl)) (by decide) (by decide)) q53a q53c (g := (mkF m 218 #[.val (.int p0), .val (.int p1), .val (.int p2), .val (.int p3), .val (.int (Int32.ofNat sz)), .val (.ref b1), .val (.int (1 : Int32)), .val (.int (Int32.ofNat i)), .val (.int (Int32.ofNat j)), .val (.int (1 : Int32)), .val (.int (((p3.toUInt32 >>> ((3 : Int32) &&& 31).toUInt32).toInt32) &&& (3 : Int32)))] [(.ref b1)])) rfl (by rw [hml]; rfl) (Steps.refl _) (argsL := []) (rest := []) (lenOf pd___I rfl) rfl (by show 2 * 0 + _ ≤ _; exact Nat.le_of_eq rfl) (hb hby at_218) (fun _ _ => ⟨rfl, e48, (by decide : 6 + 0 ≤ _), (by decide : 17415 + 0 ≤ _)⟩)
              dsimp only [Pt.U, Pt.locs, Pt.cells, Pt.slots] at X53 l53 y53 z53 st53 hQ53
              rw [l53, y53, z53] at X53
              obtain ⟨x53, zz53, rfl, N53q, hMx53, Rr53⟩ := hQ53
              have N53 := Fr.app N48 N53q
              have Ex53 := Rr53.ex
              obtain ⟨cq54, kq54, q54a, q54b, q54c⟩ := isOf hZ rfl Ex53
              obtain ⟨_, _, ⟨T54, L54, k54, n54⟩, -, X54, ⟨Lc54, hQ54, l54, y54, z54⟩, st54⟩ := X53.virtualBack hx (y := (⟨"com/example/halfword/halfword/verify/RoundRobinSet", "isEmpty", "()Z"⟩ : MethodName)) (z := (⟨"com/example/halfword/halfword/verify/RoundRobinSet", "isEmpty", "()Z"⟩ : MethodName)) hown (mvT hZ (hw _ (List.mem_of_getElem? (i := 26) rfl))) (mvT hZ (hw _ (List.mem_of_getElem? (i := 27) rfl))) (notFace_of_selects (args := #[]) (mvT hZ (hw _ (List.mem_of_getElem? (i := 29) rfl)))) (mvT hZ (hw _ (List.mem_of_getElem? (i := 29) rfl))) (mvT hZ (hw _ (List.mem_of_getElem? (i := 28) rfl))) (by decide) (backOf (W := 0) (rEm l Z a0 hw [] b1 sz (x53 + 1) (Rm (Ad (Ad (fun _ => False) i) j) x53) (1 : Int32) T53.heap n0 (Rr53.le) Rr53 (Or.inl ⟨rfl, (Cnt.rm (c := 0) (Cnt.same' hc47') hMx53)⟩)) hZ (hw _ (List.mem_of_getElem? (i := 30) rfl)) (hw _ (List.mem_of_getElem? (i := 3) rfl)) (by decide) (by decide)) q54a q54c (g := (mkF m 232 #[.val (.int p0), .val (.int p1), .val (.int p2), .val (.int p3), .val (.int (Int32.ofNat sz)), .val (.ref b1), .val (.int (1 : Int32)), .val (.int (Int32.ofNat i)), .val (.int (Int32.ofNat j)), .val (.int ((1 : Int32) + (-1 : Int32))), .val (.int (((p3.toUInt32 >>> ((3 : Int32) &&& 31).toUInt32).toInt32) &&& (3 : Int32)))] [(.ref b1)])) rfl (by rw [hml]; rfl) (Steps.refl _) (argsL := []) (rest := []) (lenOf pd___Z rfl) rfl (by show 2 * 0 + _ ≤ _; exact Nat.le_of_eq rfl) (hb hby at_232) (fun _ _ => ⟨rfl, rfl, (by decide : 6 + 0 ≤ _), (by decide : 17415 + 0 ≤ _)⟩)
              dsimp only [Pt.U, Pt.locs, Pt.cells, Pt.slots] at X54 l54 y54 z54 st54 hQ54
              rw [l54, y54, z54] at X54
              obtain ⟨rfl, N54q, e54⟩ := hQ54
              have N54 := Fr.app N53 N54q
              obtain ⟨fs, hr, hrun, hended, hW, hsame⟩ := X54.leave (v := some (.int (1 : Int32))) (fun h => by rw [Bd.returns] at h; cases h)
              refine ⟨_, _, pre51 _ ?_, hrun, hended, _, _, rfl, ?_, ⟨_, rfl⟩, hW, hsame.mono (by decide) (by decide)⟩
              · skip
                show Steps p.tables e below (T48.setTop (mkF m 208 #[.val (.int p0), .val (.int p1), .val (.int p2), .val (.int p3), .val (.int (Int32.ofNat sz)), .val (.ref b1), .val (.int (1 : Int32)), .val (.int (Int32.ofNat i)), .val (.int (Int32.ofNat j)), .val (.int (1 : Int32)), .val (.int (((p3.toUInt32 >>> ((3 : Int32) &&& 31).toUInt32).toInt32) &&& (3 : Int32)))] [(.int (2 : Int32)), (.int (((p3.toUInt32 >>> ((3 : Int32) &&& 31).toUInt32).toInt32) &&& (3 : Int32)))])) _
                refine XS.icmpNo X48.here hx rfl (hb hby at_208) rfl (flt hc52).1 ?_
                show Steps p.tables e below (T48.setTop (mkF m 211 #[.val (.int p0), .val (.int p1), .val (.int p2), .val (.int p3), .val (.int (Int32.ofNat sz)), .val (.ref b1), .val (.int (1 : Int32)), .val (.int (Int32.ofNat i)), .val (.int (Int32.ofNat j)), .val (.int (1 : Int32)), .val (.int (((p3.toUInt32 >>> ((3 : Int32) &&& 31).toUInt32).toInt32) &&& (3 : Int32)))] [])) _
                refine XS.iload X48.here hx rfl (hb hby at_211) rfl ?_
                show Steps p.tables e below (T48.setTop (mkF m 213 #[.val (.int p0), .val (.int p1), .val (.int p2), .val (.int p3), .val (.int (Int32.ofNat sz)), .val (.ref b1), .val (.int (1 : Int32)), .val (.int (Int32.ofNat i)), .val (.int (Int32.ofNat j)), .val (.int (1 : Int32)), .val (.int (((p3.toUInt32 >>> ((3 : Int32) &&& 31).toUInt32).toInt32) &&& (3 : Int32)))] [(.int (1 : Int32))])) _
                refine XS.ifNo X48.here hx rfl (hb hby at_213) rfl ((if0 _ _).trans (tlt (by decide : (0 : Int32) < (1 : Int32))).2.2.2) ?_
                show Steps p.tables e below (T48.setTop (mkF m 216 #[.val (.int p0), .val (.int p1), .val (.int p2), .val (.int p3), .val (.int (Int32.ofNat sz)), .val (.ref b1), .val (.int (1 : Int32)), .val (.int (Int32.ofNat i)), .val (.int (Int32.ofNat j)), .val (.int (1 : Int32)), .val (.int (((p3.toUInt32 >>> ((3 : Int32) &&& 31).toUInt32).toInt32) &&& (3 : Int32)))] [])) _
                refine XS.aload X48.here hx rfl (hb hby at_216) rfl rfl ?_
                show Steps p.tables e below (T48.setTop (mkF m 218 #[.val (.int p0), .val (.int p1), .val (.int p2), .val (.int p3), .val (.int (Int32.ofNat sz)), .val (.ref b1), .val (.int (1 : Int32)), .val (.int (Int32.ofNat i)), .val (.int (Int32.ofNat j)), .val (.int (1 : Int32)), .val (.int (((p3.toUInt32 >>> ((3 : Int32) &&& 31).toUInt32).toInt32) &&& (3 : Int32)))] [(.ref b1)])) _
                refine st53.trans ?_
                show Steps p.tables e below (T53.setTop (mkF m 221 #[.val (.int p0), .val (.int p1), .val (.int p2), .val (.int p3), .val (.int (Int32.ofNat sz)), .val (.ref b1), .val (.int (1 : Int32)), .val (.int (Int32.ofNat i)), .val (.int (Int32.ofNat j)), .val (.int (1 : Int32)), .val (.int (((p3.toUInt32 >>> ((3 : Int32) &&& 31).toUInt32).toInt32) &&& (3 : Int32)))] [(.int zz53)])) _
                refine XS.pop X53.here hx rfl (hb hby at_221) rfl rfl ?_
                show Steps p.tables e below (T53.setTop (mkF m 222 #[.val (.int p0), .val (.int p1), .val (.int p2), .val (.int p3), .val (.int (Int32.ofNat sz)), .val (.ref b1), .val (.int (1 : Int32)), .val (.int (Int32.ofNat i)), .val (.int (Int32.ofNat j)), .val (.int (1 : Int32)), .val (.int (((p3.toUInt32 >>> ((3 : Int32) &&& 31).toUInt32).toInt32) &&& (3 : Int32)))] [])) _
                refine XS.iinc X53.here hx rfl (hb hby at_222) rfl (l' := #[.val (.int p0), .val (.int p1), .val (.int p2), .val (.int p3), .val (.int (Int32.ofNat sz)), .val (.ref b1), .val (.int (1 : Int32)), .val (.int (Int32.ofNat i)), .val (.int (Int32.ofNat j)), .val (.int ((1 : Int32) + (-1 : Int32))), .val (.int (((p3.toUInt32 >>> ((3 : Int32) &&& 31).toUInt32).toInt32) &&& (3 : Int32)))]) rfl ?_
                show Steps p.tables e below (T53.setTop (mkF m 225 #[.val (.int p0), .val (.int p1), .val (.int p2), .val (.int p3), .val (.int (Int32.ofNat sz)), .val (.ref b1), .val (.int (1 : Int32)), .val (.int (Int32.ofNat i)), .val (.int (Int32.ofNat j)), .val (.int ((1 : Int32) + (-1 : Int32))), .val (.int (((p3.toUInt32 >>> ((3 : Int32) &&& 31).toUInt32).toInt32) &&& (3 : Int32)))] [])) _
                refine XS.iload X53.here hx rfl (hb hby at_225) rfl ?_
                show Steps p.tables e below (T53.setTop (mkF m 227 #[.val (.int p0), .val (.int p1), .val (.int p2), .val (.int p3), .val (.int (Int32.ofNat sz)), .val (.ref b1), .val (.int (1 : Int32)), .val (.int (Int32.ofNat i)), .val (.int (Int32.ofNat j)), .val (.int ((1 : Int32) + (-1 : Int32))), .val (.int (((p3.toUInt32 >>> ((3 : Int32) &&& 31).toUInt32).toInt32) &&& (3 : Int32)))] [(.int (1 : Int32))])) _
                refine XS.ifNo X53.here hx rfl (hb hby at_227) rfl ((if0 _ _).trans (feq (by decide : ¬ ((1 : Int32) = (0 : Int32)))).1) ?_
                show Steps p.tables e below (T53.setTop (mkF m 230 #[.val (.int p0), .val (.int p1), .val (.int p2), .val (.int p3), .val (.int (Int32.ofNat sz)), .val (.ref b1), .val (.int (1 : Int32)), .val (.int (Int32.ofNat i)), .val (.int (Int32.ofNat j)), .val (.int ((1 : Int32) + (-1 : Int32))), .val (.int (((p3.toUInt32 >>> ((3 : Int32) &&& 31).toUInt32).toInt32) &&& (3 : Int32)))] [])) _
                refine XS.aload X53.here hx rfl (hb hby at_230) rfl rfl ?_
                show Steps p.tables e below (T53.setTop (mkF m 232 #[.val (.int p0), .val (.int p1), .val (.int p2), .val (.int p3), .val (.int (Int32.ofNat sz)), .val (.ref b1), .val (.int (1 : Int32)), .val (.int (Int32.ofNat i)), .val (.int (Int32.ofNat j)), .val (.int ((1 : Int32) + (-1 : Int32))), .val (.int (((p3.toUInt32 >>> ((3 : Int32) &&& 31).toUInt32).toInt32) &&& (3 : Int32)))] [(.ref b1)])) _
                refine st54.trans ?_
                show Steps p.tables e below (T54.setTop (mkF m 235 #[.val (.int p0), .val (.int p1), .val (.int p2), .val (.int p3), .val (.int (Int32.ofNat sz)), .val (.ref b1), .val (.int (1 : Int32)), .val (.int (Int32.ofNat i)), .val (.int (Int32.ofNat j)), .val (.int ((1 : Int32) + (-1 : Int32))), .val (.int (((p3.toUInt32 >>> ((3 : Int32) &&& 31).toUInt32).toInt32) &&& (3 : Int32)))] [(.int (1 : Int32))])) _
                refine XS.iload X54.here hx rfl (hb hby at_235) rfl ?_
                show Steps p.tables e below (T54.setTop (mkF m 237 #[.val (.int p0), .val (.int p1), .val (.int p2), .val (.int p3), .val (.int (Int32.ofNat sz)), .val (.ref b1), .val (.int (1 : Int32)), .val (.int (Int32.ofNat i)), .val (.int (Int32.ofNat j)), .val (.int ((1 : Int32) + (-1 : Int32))), .val (.int (((p3.toUInt32 >>> ((3 : Int32) &&& 31).toUInt32).toInt32) &&& (3 : Int32)))] [(.int ((1 : Int32) + (-1 : Int32))), (.int (1 : Int32))])) _
                refine XS.ifNo X54.here hx rfl (hb hby at_237) rfl ((if0 _ _).trans (teq (by decide)).2) ?_
                show Steps p.tables e below (T54.setTop (mkF m 240 #[.val (.int p0), .val (.int p1), .val (.int p2), .val (.int p3), .val (.int (Int32.ofNat sz)), .val (.ref b1), .val (.int (1 : Int32)), .val (.int (Int32.ofNat i)), .val (.int (Int32.ofNat j)), .val (.int ((1 : Int32) + (-1 : Int32))), .val (.int (((p3.toUInt32 >>> ((3 : Int32) &&& 31).toUInt32).toInt32) &&& (3 : Int32)))] [(.int (1 : Int32))])) _
                refine XS.iconst X54.here hx rfl (hb hby at_240) ?_
                show Steps p.tables e below (T54.setTop (mkF m 241 #[.val (.int p0), .val (.int p1), .val (.int p2), .val (.int p3), .val (.int (Int32.ofNat sz)), .val (.ref b1), .val (.int (1 : Int32)), .val (.int (Int32.ofNat i)), .val (.int (Int32.ofNat j)), .val (.int ((1 : Int32) + (-1 : Int32))), .val (.int (((p3.toUInt32 >>> ((3 : Int32) &&& 31).toUInt32).toInt32) &&& (3 : Int32)))] [(.int (1 : Int32)), (.int (1 : Int32))])) _
                refine XS.goto X54.here hx rfl (pc0 := 241) (pc' := 245) rfl (hb hby at_241) (by decide) (by decide) ?_
                show Steps p.tables e below (T54.setTop (mkF m 245 #[.val (.int p0), .val (.int p1), .val (.int p2), .val (.int p3), .val (.int (Int32.ofNat sz)), .val (.ref b1), .val (.int (1 : Int32)), .val (.int (Int32.ofNat i)), .val (.int (Int32.ofNat j)), .val (.int ((1 : Int32) + (-1 : Int32))), .val (.int (((p3.toUInt32 >>> ((3 : Int32) &&& 31).toUInt32).toInt32) &&& (3 : Int32)))] [(.int (1 : Int32)), (.int (1 : Int32))])) _
                refine XS.icmpNo X54.here hx rfl (hb hby at_245) rfl (teq (by decide : (1 : Int32) = (1 : Int32))).2 ?_
                show Steps p.tables e below (T54.setTop (mkF m 248 #[.val (.int p0), .val (.int p1), .val (.int p2), .val (.int p3), .val (.int (Int32.ofNat sz)), .val (.ref b1), .val (.int (1 : Int32)), .val (.int (Int32.ofNat i)), .val (.int (Int32.ofNat j)), .val (.int ((1 : Int32) + (-1 : Int32))), .val (.int (((p3.toUInt32 >>> ((3 : Int32) &&& 31).toUInt32).toInt32) &&& (3 : Int32)))] [])) _
                refine XS.iconst X54.here hx rfl (hb hby at_248) ?_
                show Steps p.tables e below (T54.setTop (mkF m 249 #[.val (.int p0), .val (.int p1), .val (.int p2), .val (.int p3), .val (.int (Int32.ofNat sz)), .val (.ref b1), .val (.int (1 : Int32)), .val (.int (Int32.ofNat i)), .val (.int (Int32.ofNat j)), .val (.int ((1 : Int32) + (-1 : Int32))), .val (.int (((p3.toUInt32 >>> ((3 : Int32) &&& 31).toUInt32).toInt32) &&& (3 : Int32)))] [(.int (1 : Int32))])) _
                refine XS.goto X54.here hx rfl (pc0 := 249) (pc' := 253) rfl (hb hby at_249) (by decide) (by decide) ?_
                show Steps p.tables e below (T54.setTop (mkF m 253 #[.val (.int p0), .val (.int p1), .val (.int p2), .val (.int p3), .val (.int (Int32.ofNat sz)), .val (.ref b1), .val (.int (1 : Int32)), .val (.int (Int32.ofNat i)), .val (.int (Int32.ofNat j)), .val (.int ((1 : Int32) + (-1 : Int32))), .val (.int (((p3.toUInt32 >>> ((3 : Int32) &&& 31).toUInt32).toInt32) &&& (3 : Int32)))] [(.int (1 : Int32))])) _
                refine XS.istore X54.here hx rfl (hb hby at_253) rfl (l' := #[.val (.int p0), .val (.int p1), .val (.int p2), .val (.int p3), .val (.int (Int32.ofNat sz)), .val (.ref b1), .val (.int (1 : Int32)), .val (.int (Int32.ofNat i)), .val (.int (Int32.ofNat j)), .val (.int ((1 : Int32) + (-1 : Int32))), .val (.int (((p3.toUInt32 >>> ((3 : Int32) &&& 31).toUInt32).toInt32) &&& (3 : Int32)))]) rfl ?_
                show Steps p.tables e below (T54.setTop (mkF m 255 #[.val (.int p0), .val (.int p1), .val (.int p2), .val (.int p3), .val (.int (Int32.ofNat sz)), .val (.ref b1), .val (.int (1 : Int32)), .val (.int (Int32.ofNat i)), .val (.int (Int32.ofNat j)), .val (.int ((1 : Int32) + (-1 : Int32))), .val (.int (((p3.toUInt32 >>> ((3 : Int32) &&& 31).toUInt32).toInt32) &&& (3 : Int32)))] [])) _
                refine XS.iload X54.here hx rfl (hb hby at_255) rfl ?_
                show Steps p.tables e below (T54.setTop (mkF m 257 #[.val (.int p0), .val (.int p1), .val (.int p2), .val (.int p3), .val (.int (Int32.ofNat sz)), .val (.ref b1), .val (.int (1 : Int32)), .val (.int (Int32.ofNat i)), .val (.int (Int32.ofNat j)), .val (.int ((1 : Int32) + (-1 : Int32))), .val (.int (((p3.toUInt32 >>> ((3 : Int32) &&& 31).toUInt32).toInt32) &&& (3 : Int32)))] [(.int (1 : Int32))])) _
                exact retN X54 hx (t := .boolean) Bd.returns (by simp) (hb hby at_257) hr
              · exact ⟨(by first | rfl | simp [hc5, hc10, hc34, hc47, hc50, hc52]), N54⟩
          · skip
            obtain ⟨cq55, kq55, q55a, q55b, q55c⟩ := isOf hZ e48 Ex45
            obtain ⟨_, _, ⟨T55, L55, k55, n55⟩, -, X55, ⟨Lc55, hQ55, l55, y55, z55⟩, st55⟩ := X48.virtualBack hx (y := (⟨"com/example/halfword/halfword/verify/RoundRobinSet", "take", "()I"⟩ : MethodName)) (z := (⟨"com/example/halfword/halfword/verify/RoundRobinSet", "take", "()I"⟩ : MethodName)) hown (mvT hZ (hw _ (List.mem_of_getElem? (i := 45) rfl))) (mvT hZ (hw _ (List.mem_of_getElem? (i := 46) rfl))) (notFace_of_selects (args := #[]) (mvT hZ (hw _ (List.mem_of_getElem? (i := 48) rfl)))) (mvT hZ (hw _ (List.mem_of_getElem? (i := 48) rfl))) (mvT hZ (hw _ (List.mem_of_getElem? (i := 47) rfl))) (by decide) (backOf (W := 0) (rTk l Z a0 hw [] b1 sz 0 (Ad (Ad (fun _ => False) i) j) T45.heap n0 (Rr45.le) Rr45 (Cnt.some (c := 0) (Cnt.same' hc47'))) hZ (hw _ (List.mem_of_getElem? (i := 49) rfl)) (hw _ (List.mem_of_getElem? (i := 3) rfl)) (by decide) (by decide)) q55a q55c (g := (mkF m 168 #[.val (.int p0), .val (.int p1), .val (.int p2), .val (.int p3), .val (.int (Int32.ofNat sz)), .val (.ref b1), .val (.int (1 : Int32)), .val (.int (Int32.ofNat i)), .val (.int (Int32.ofNat j)), .val (.int (1 : Int32)), .val (.int (((p3.toUInt32 >>> ((3 : Int32) &&& 31).toUInt32).toInt32) &&& (3 : Int32)))] [(.ref b1)])) rfl (by rw [hml]; rfl) (Steps.refl _) (argsL := []) (rest := []) (lenOf pd___I rfl) rfl (by show 2 * 0 + _ ≤ _; exact Nat.le_of_eq rfl) (hb hby at_168) (fun _ _ => ⟨rfl, e48, (by decide : 6 + 0 ≤ _), (by decide : 17415 + 0 ≤ _)⟩)
            dsimp only [Pt.U, Pt.locs, Pt.cells, Pt.slots] at X55 l55 y55 z55 st55 hQ55
            rw [l55, y55, z55] at X55
            obtain ⟨x55, zz55, rfl, N55q, hMx55, Rr55⟩ := hQ55
            have N55 := Fr.app N48 N55q
            have Ex55 := Rr55.ex
            obtain ⟨cq56, kq56, q56a, q56b, q56c⟩ := isOf hZ rfl Ex55
            obtain ⟨_, _, ⟨T56, L56, k56, n56⟩, -, X56, ⟨Lc56, hQ56, l56, y56, z56⟩, st56⟩ := X55.virtualBack hx (y := (⟨"com/example/halfword/halfword/verify/RoundRobinSet", "isEmpty", "()Z"⟩ : MethodName)) (z := (⟨"com/example/halfword/halfword/verify/RoundRobinSet", "isEmpty", "()Z"⟩ : MethodName)) hown (mvT hZ (hw _ (List.mem_of_getElem? (i := 26) rfl))) (mvT hZ (hw _ (List.mem_of_getElem? (i := 27) rfl))) (notFace_of_selects (args := #[]) (mvT hZ (hw _ (List.mem_of_getElem? (i := 29) rfl)))) (mvT hZ (hw _ (List.mem_of_getElem? (i := 29) rfl))) (mvT hZ (hw _ (List.mem_of_getElem? (i := 28) rfl))) (by decide) (backOf (W := 0) (rEm l Z a0 hw [] b1 sz (x55 + 1) (Rm (Ad (Ad (fun _ => False) i) j) x55) (1 : Int32) T55.heap n0 (Rr55.le) Rr55 (Or.inl ⟨rfl, (Cnt.rm (c := 0) (Cnt.same' hc47') hMx55)⟩)) hZ (hw _ (List.mem_of_getElem? (i := 30) rfl)) (hw _ (List.mem_of_getElem? (i := 3) rfl)) (by decide) (by decide)) q56a q56c (g := (mkF m 182 #[.val (.int p0), .val (.int p1), .val (.int p2), .val (.int p3), .val (.int (Int32.ofNat sz)), .val (.ref b1), .val (.int (1 : Int32)), .val (.int (Int32.ofNat i)), .val (.int (Int32.ofNat j)), .val (.int ((1 : Int32) + (-1 : Int32))), .val (.int (((p3.toUInt32 >>> ((3 : Int32) &&& 31).toUInt32).toInt32) &&& (3 : Int32)))] [(.ref b1)])) rfl (by rw [hml]; rfl) (Steps.refl _) (argsL := []) (rest := []) (lenOf pd___Z rfl) rfl (by show 2 * 0 + _ ≤ _; exact Nat.le_of_eq rfl) (hb hby at_182) (fun _ _ => ⟨rfl, rfl, (by decide : 6 + 0 ≤ _), (by decide : 17415 + 0 ≤ _)⟩)
            dsimp only [Pt.U, Pt.locs, Pt.cells, Pt.slots] at X56 l56 y56 z56 st56 hQ56
            rw [l56, y56, z56] at X56
            obtain ⟨rfl, N56q, e56⟩ := hQ56
            have N56 := Fr.app N55 N56q
            have pre57 : ∀ t, Steps p.tables e below (T56.setTop (mkF m 208 #[.val (.int p0), .val (.int p1), .val (.int p2), .val (.int p3), .val (.int (Int32.ofNat sz)), .val (.ref b1), .val (.int (1 : Int32)), .val (.int (Int32.ofNat i)), .val (.int (Int32.ofNat j)), .val (.int ((1 : Int32) + (-1 : Int32))), .val (.int (((p3.toUInt32 >>> ((3 : Int32) &&& 31).toUInt32).toInt32) &&& (3 : Int32)))] [(.int (2 : Int32)), (.int (((p3.toUInt32 >>> ((3 : Int32) &&& 31).toUInt32).toInt32) &&& (3 : Int32)))])) t → Steps p.tables e below (s₁.setTop (entryFrame m #[(.int p0), (.int p1), (.int p2), (.int p3)] maxLocals)) t := by
              intro t kt
              refine pre49 t ?_
              show Steps p.tables e below (T48.setTop (mkF m 158 #[.val (.int p0), .val (.int p1), .val (.int p2), .val (.int p3), .val (.int (Int32.ofNat sz)), .val (.ref b1), .val (.int (1 : Int32)), .val (.int (Int32.ofNat i)), .val (.int (Int32.ofNat j)), .val (.int (1 : Int32)), .val (.int (((p3.toUInt32 >>> ((3 : Int32) &&& 31).toUInt32).toInt32) &&& (3 : Int32)))] [(.int (1 : Int32)), (.int (((p3.toUInt32 >>> ((3 : Int32) &&& 31).toUInt32).toInt32) &&& (3 : Int32)))])) _
              refine XS.icmpNo X48.here hx rfl (hb hby at_158) rfl (flt hc50).1 ?_
              show Steps p.tables e below (T48.setTop (mkF m 161 #[.val (.int p0), .val (.int p1), .val (.int p2), .val (.int p3), .val (.int (Int32.ofNat sz)), .val (.ref b1), .val (.int (1 : Int32)), .val (.int (Int32.ofNat i)), .val (.int (Int32.ofNat j)), .val (.int (1 : Int32)), .val (.int (((p3.toUInt32 >>> ((3 : Int32) &&& 31).toUInt32).toInt32) &&& (3 : Int32)))] [])) _
              refine XS.iload X48.here hx rfl (hb hby at_161) rfl ?_
              show Steps p.tables e below (T48.setTop (mkF m 163 #[.val (.int p0), .val (.int p1), .val (.int p2), .val (.int p3), .val (.int (Int32.ofNat sz)), .val (.ref b1), .val (.int (1 : Int32)), .val (.int (Int32.ofNat i)), .val (.int (Int32.ofNat j)), .val (.int (1 : Int32)), .val (.int (((p3.toUInt32 >>> ((3 : Int32) &&& 31).toUInt32).toInt32) &&& (3 : Int32)))] [(.int (1 : Int32))])) _
              refine XS.ifNo X48.here hx rfl (hb hby at_163) rfl ((if0 _ _).trans (tlt (by decide : (0 : Int32) < (1 : Int32))).2.2.2) ?_
              show Steps p.tables e below (T48.setTop (mkF m 166 #[.val (.int p0), .val (.int p1), .val (.int p2), .val (.int p3), .val (.int (Int32.ofNat sz)), .val (.ref b1), .val (.int (1 : Int32)), .val (.int (Int32.ofNat i)), .val (.int (Int32.ofNat j)), .val (.int (1 : Int32)), .val (.int (((p3.toUInt32 >>> ((3 : Int32) &&& 31).toUInt32).toInt32) &&& (3 : Int32)))] [])) _
              refine XS.aload X48.here hx rfl (hb hby at_166) rfl rfl ?_
              show Steps p.tables e below (T48.setTop (mkF m 168 #[.val (.int p0), .val (.int p1), .val (.int p2), .val (.int p3), .val (.int (Int32.ofNat sz)), .val (.ref b1), .val (.int (1 : Int32)), .val (.int (Int32.ofNat i)), .val (.int (Int32.ofNat j)), .val (.int (1 : Int32)), .val (.int (((p3.toUInt32 >>> ((3 : Int32) &&& 31).toUInt32).toInt32) &&& (3 : Int32)))] [(.ref b1)])) _
              refine st55.trans ?_
              show Steps p.tables e below (T55.setTop (mkF m 171 #[.val (.int p0), .val (.int p1), .val (.int p2), .val (.int p3), .val (.int (Int32.ofNat sz)), .val (.ref b1), .val (.int (1 : Int32)), .val (.int (Int32.ofNat i)), .val (.int (Int32.ofNat j)), .val (.int (1 : Int32)), .val (.int (((p3.toUInt32 >>> ((3 : Int32) &&& 31).toUInt32).toInt32) &&& (3 : Int32)))] [(.int zz55)])) _
              refine XS.pop X55.here hx rfl (hb hby at_171) rfl rfl ?_
              show Steps p.tables e below (T55.setTop (mkF m 172 #[.val (.int p0), .val (.int p1), .val (.int p2), .val (.int p3), .val (.int (Int32.ofNat sz)), .val (.ref b1), .val (.int (1 : Int32)), .val (.int (Int32.ofNat i)), .val (.int (Int32.ofNat j)), .val (.int (1 : Int32)), .val (.int (((p3.toUInt32 >>> ((3 : Int32) &&& 31).toUInt32).toInt32) &&& (3 : Int32)))] [])) _
              refine XS.iinc X55.here hx rfl (hb hby at_172) rfl (l' := #[.val (.int p0), .val (.int p1), .val (.int p2), .val (.int p3), .val (.int (Int32.ofNat sz)), .val (.ref b1), .val (.int (1 : Int32)), .val (.int (Int32.ofNat i)), .val (.int (Int32.ofNat j)), .val (.int ((1 : Int32) + (-1 : Int32))), .val (.int (((p3.toUInt32 >>> ((3 : Int32) &&& 31).toUInt32).toInt32) &&& (3 : Int32)))]) rfl ?_
              show Steps p.tables e below (T55.setTop (mkF m 175 #[.val (.int p0), .val (.int p1), .val (.int p2), .val (.int p3), .val (.int (Int32.ofNat sz)), .val (.ref b1), .val (.int (1 : Int32)), .val (.int (Int32.ofNat i)), .val (.int (Int32.ofNat j)), .val (.int ((1 : Int32) + (-1 : Int32))), .val (.int (((p3.toUInt32 >>> ((3 : Int32) &&& 31).toUInt32).toInt32) &&& (3 : Int32)))] [])) _
              refine XS.iload X55.here hx rfl (hb hby at_175) rfl ?_
              show Steps p.tables e below (T55.setTop (mkF m 177 #[.val (.int p0), .val (.int p1), .val (.int p2), .val (.int p3), .val (.int (Int32.ofNat sz)), .val (.ref b1), .val (.int (1 : Int32)), .val (.int (Int32.ofNat i)), .val (.int (Int32.ofNat j)), .val (.int ((1 : Int32) + (-1 : Int32))), .val (.int (((p3.toUInt32 >>> ((3 : Int32) &&& 31).toUInt32).toInt32) &&& (3 : Int32)))] [(.int (1 : Int32))])) _
              refine XS.ifNo X55.here hx rfl (hb hby at_177) rfl ((if0 _ _).trans (feq (by decide : ¬ ((1 : Int32) = (0 : Int32)))).1) ?_
              show Steps p.tables e below (T55.setTop (mkF m 180 #[.val (.int p0), .val (.int p1), .val (.int p2), .val (.int p3), .val (.int (Int32.ofNat sz)), .val (.ref b1), .val (.int (1 : Int32)), .val (.int (Int32.ofNat i)), .val (.int (Int32.ofNat j)), .val (.int ((1 : Int32) + (-1 : Int32))), .val (.int (((p3.toUInt32 >>> ((3 : Int32) &&& 31).toUInt32).toInt32) &&& (3 : Int32)))] [])) _
              refine XS.aload X55.here hx rfl (hb hby at_180) rfl rfl ?_
              show Steps p.tables e below (T55.setTop (mkF m 182 #[.val (.int p0), .val (.int p1), .val (.int p2), .val (.int p3), .val (.int (Int32.ofNat sz)), .val (.ref b1), .val (.int (1 : Int32)), .val (.int (Int32.ofNat i)), .val (.int (Int32.ofNat j)), .val (.int ((1 : Int32) + (-1 : Int32))), .val (.int (((p3.toUInt32 >>> ((3 : Int32) &&& 31).toUInt32).toInt32) &&& (3 : Int32)))] [(.ref b1)])) _
              refine st56.trans ?_
              show Steps p.tables e below (T56.setTop (mkF m 185 #[.val (.int p0), .val (.int p1), .val (.int p2), .val (.int p3), .val (.int (Int32.ofNat sz)), .val (.ref b1), .val (.int (1 : Int32)), .val (.int (Int32.ofNat i)), .val (.int (Int32.ofNat j)), .val (.int ((1 : Int32) + (-1 : Int32))), .val (.int (((p3.toUInt32 >>> ((3 : Int32) &&& 31).toUInt32).toInt32) &&& (3 : Int32)))] [(.int (1 : Int32))])) _
              refine XS.iload X56.here hx rfl (hb hby at_185) rfl ?_
              show Steps p.tables e below (T56.setTop (mkF m 187 #[.val (.int p0), .val (.int p1), .val (.int p2), .val (.int p3), .val (.int (Int32.ofNat sz)), .val (.ref b1), .val (.int (1 : Int32)), .val (.int (Int32.ofNat i)), .val (.int (Int32.ofNat j)), .val (.int ((1 : Int32) + (-1 : Int32))), .val (.int (((p3.toUInt32 >>> ((3 : Int32) &&& 31).toUInt32).toInt32) &&& (3 : Int32)))] [(.int ((1 : Int32) + (-1 : Int32))), (.int (1 : Int32))])) _
              refine XS.ifNo X56.here hx rfl (hb hby at_187) rfl ((if0 _ _).trans (teq (by decide)).2) ?_
              show Steps p.tables e below (T56.setTop (mkF m 190 #[.val (.int p0), .val (.int p1), .val (.int p2), .val (.int p3), .val (.int (Int32.ofNat sz)), .val (.ref b1), .val (.int (1 : Int32)), .val (.int (Int32.ofNat i)), .val (.int (Int32.ofNat j)), .val (.int ((1 : Int32) + (-1 : Int32))), .val (.int (((p3.toUInt32 >>> ((3 : Int32) &&& 31).toUInt32).toInt32) &&& (3 : Int32)))] [(.int (1 : Int32))])) _
              refine XS.iconst X56.here hx rfl (hb hby at_190) ?_
              show Steps p.tables e below (T56.setTop (mkF m 191 #[.val (.int p0), .val (.int p1), .val (.int p2), .val (.int p3), .val (.int (Int32.ofNat sz)), .val (.ref b1), .val (.int (1 : Int32)), .val (.int (Int32.ofNat i)), .val (.int (Int32.ofNat j)), .val (.int ((1 : Int32) + (-1 : Int32))), .val (.int (((p3.toUInt32 >>> ((3 : Int32) &&& 31).toUInt32).toInt32) &&& (3 : Int32)))] [(.int (1 : Int32)), (.int (1 : Int32))])) _
              refine XS.goto X56.here hx rfl (pc0 := 191) (pc' := 195) rfl (hb hby at_191) (by decide) (by decide) ?_
              show Steps p.tables e below (T56.setTop (mkF m 195 #[.val (.int p0), .val (.int p1), .val (.int p2), .val (.int p3), .val (.int (Int32.ofNat sz)), .val (.ref b1), .val (.int (1 : Int32)), .val (.int (Int32.ofNat i)), .val (.int (Int32.ofNat j)), .val (.int ((1 : Int32) + (-1 : Int32))), .val (.int (((p3.toUInt32 >>> ((3 : Int32) &&& 31).toUInt32).toInt32) &&& (3 : Int32)))] [(.int (1 : Int32)), (.int (1 : Int32))])) _
              refine XS.icmpNo X56.here hx rfl (hb hby at_195) rfl (teq (by decide : (1 : Int32) = (1 : Int32))).2 ?_
              show Steps p.tables e below (T56.setTop (mkF m 198 #[.val (.int p0), .val (.int p1), .val (.int p2), .val (.int p3), .val (.int (Int32.ofNat sz)), .val (.ref b1), .val (.int (1 : Int32)), .val (.int (Int32.ofNat i)), .val (.int (Int32.ofNat j)), .val (.int ((1 : Int32) + (-1 : Int32))), .val (.int (((p3.toUInt32 >>> ((3 : Int32) &&& 31).toUInt32).toInt32) &&& (3 : Int32)))] [])) _
              refine XS.iconst X56.here hx rfl (hb hby at_198) ?_
              show Steps p.tables e below (T56.setTop (mkF m 199 #[.val (.int p0), .val (.int p1), .val (.int p2), .val (.int p3), .val (.int (Int32.ofNat sz)), .val (.ref b1), .val (.int (1 : Int32)), .val (.int (Int32.ofNat i)), .val (.int (Int32.ofNat j)), .val (.int ((1 : Int32) + (-1 : Int32))), .val (.int (((p3.toUInt32 >>> ((3 : Int32) &&& 31).toUInt32).toInt32) &&& (3 : Int32)))] [(.int (1 : Int32))])) _
              refine XS.goto X56.here hx rfl (pc0 := 199) (pc' := 203) rfl (hb hby at_199) (by decide) (by decide) ?_
              show Steps p.tables e below (T56.setTop (mkF m 203 #[.val (.int p0), .val (.int p1), .val (.int p2), .val (.int p3), .val (.int (Int32.ofNat sz)), .val (.ref b1), .val (.int (1 : Int32)), .val (.int (Int32.ofNat i)), .val (.int (Int32.ofNat j)), .val (.int ((1 : Int32) + (-1 : Int32))), .val (.int (((p3.toUInt32 >>> ((3 : Int32) &&& 31).toUInt32).toInt32) &&& (3 : Int32)))] [(.int (1 : Int32))])) _
              refine XS.istore X56.here hx rfl (hb hby at_203) rfl (l' := #[.val (.int p0), .val (.int p1), .val (.int p2), .val (.int p3), .val (.int (Int32.ofNat sz)), .val (.ref b1), .val (.int (1 : Int32)), .val (.int (Int32.ofNat i)), .val (.int (Int32.ofNat j)), .val (.int ((1 : Int32) + (-1 : Int32))), .val (.int (((p3.toUInt32 >>> ((3 : Int32) &&& 31).toUInt32).toInt32) &&& (3 : Int32)))]) rfl ?_
              show Steps p.tables e below (T56.setTop (mkF m 205 #[.val (.int p0), .val (.int p1), .val (.int p2), .val (.int p3), .val (.int (Int32.ofNat sz)), .val (.ref b1), .val (.int (1 : Int32)), .val (.int (Int32.ofNat i)), .val (.int (Int32.ofNat j)), .val (.int ((1 : Int32) + (-1 : Int32))), .val (.int (((p3.toUInt32 >>> ((3 : Int32) &&& 31).toUInt32).toInt32) &&& (3 : Int32)))] [])) _
              refine XS.iload X56.here hx rfl (hb hby at_205) rfl ?_
              show Steps p.tables e below (T56.setTop (mkF m 207 #[.val (.int p0), .val (.int p1), .val (.int p2), .val (.int p3), .val (.int (Int32.ofNat sz)), .val (.ref b1), .val (.int (1 : Int32)), .val (.int (Int32.ofNat i)), .val (.int (Int32.ofNat j)), .val (.int ((1 : Int32) + (-1 : Int32))), .val (.int (((p3.toUInt32 >>> ((3 : Int32) &&& 31).toUInt32).toInt32) &&& (3 : Int32)))] [(.int (((p3.toUInt32 >>> ((3 : Int32) &&& 31).toUInt32).toInt32) &&& (3 : Int32)))])) _
              refine XS.iconst X56.here hx rfl (hb hby at_207) ?_
              exact kt
            by_cases hc58 : (((p3.toUInt32 >>> ((3 : Int32) &&& 31).toUInt32).toInt32) &&& (3 : Int32)) < (2 : Int32)
            · skip
              obtain ⟨fs, hr, hrun, hended, hW, hsame⟩ := X56.leave (v := some (.int (1 : Int32))) (fun h => by rw [Bd.returns] at h; cases h)
              refine ⟨_, _, pre57 _ ?_, hrun, hended, _, _, rfl, ?_, ⟨_, rfl⟩, hW, hsame.mono (by decide) (by decide)⟩
              · skip
                show Steps p.tables e below (T56.setTop (mkF m 208 #[.val (.int p0), .val (.int p1), .val (.int p2), .val (.int p3), .val (.int (Int32.ofNat sz)), .val (.ref b1), .val (.int (1 : Int32)), .val (.int (Int32.ofNat i)), .val (.int (Int32.ofNat j)), .val (.int ((1 : Int32) + (-1 : Int32))), .val (.int (((p3.toUInt32 >>> ((3 : Int32) &&& 31).toUInt32).toInt32) &&& (3 : Int32)))] [(.int (2 : Int32)), (.int (((p3.toUInt32 >>> ((3 : Int32) &&& 31).toUInt32).toInt32) &&& (3 : Int32)))])) _
                refine XS.icmpYes X56.here hx rfl (pc0 := 208) (pc' := 255) rfl (hb hby at_208) rfl (tlt hc58).1 (by decide) (by decide) ?_
                show Steps p.tables e below (T56.setTop (mkF m 255 #[.val (.int p0), .val (.int p1), .val (.int p2), .val (.int p3), .val (.int (Int32.ofNat sz)), .val (.ref b1), .val (.int (1 : Int32)), .val (.int (Int32.ofNat i)), .val (.int (Int32.ofNat j)), .val (.int ((1 : Int32) + (-1 : Int32))), .val (.int (((p3.toUInt32 >>> ((3 : Int32) &&& 31).toUInt32).toInt32) &&& (3 : Int32)))] [])) _
                refine XS.iload X56.here hx rfl (hb hby at_255) rfl ?_
                show Steps p.tables e below (T56.setTop (mkF m 257 #[.val (.int p0), .val (.int p1), .val (.int p2), .val (.int p3), .val (.int (Int32.ofNat sz)), .val (.ref b1), .val (.int (1 : Int32)), .val (.int (Int32.ofNat i)), .val (.int (Int32.ofNat j)), .val (.int ((1 : Int32) + (-1 : Int32))), .val (.int (((p3.toUInt32 >>> ((3 : Int32) &&& 31).toUInt32).toInt32) &&& (3 : Int32)))] [(.int (1 : Int32))])) _
                exact retN X56 hx (t := .boolean) Bd.returns (by simp) (hb hby at_257) hr
              · exact ⟨(by first | rfl | simp [hc5, hc10, hc34, hc47, hc50, hc58]), N56⟩
            · skip
              obtain ⟨fs, hr, hrun, hended, hW, hsame⟩ := X56.leave (v := some (.int (1 : Int32))) (fun h => by rw [Bd.returns] at h; cases h)
              refine ⟨_, _, pre57 _ ?_, hrun, hended, _, _, rfl, ?_, ⟨_, rfl⟩, hW, hsame.mono (by decide) (by decide)⟩
              · skip
                show Steps p.tables e below (T56.setTop (mkF m 208 #[.val (.int p0), .val (.int p1), .val (.int p2), .val (.int p3), .val (.int (Int32.ofNat sz)), .val (.ref b1), .val (.int (1 : Int32)), .val (.int (Int32.ofNat i)), .val (.int (Int32.ofNat j)), .val (.int ((1 : Int32) + (-1 : Int32))), .val (.int (((p3.toUInt32 >>> ((3 : Int32) &&& 31).toUInt32).toInt32) &&& (3 : Int32)))] [(.int (2 : Int32)), (.int (((p3.toUInt32 >>> ((3 : Int32) &&& 31).toUInt32).toInt32) &&& (3 : Int32)))])) _
                refine XS.icmpNo X56.here hx rfl (hb hby at_208) rfl (flt hc58).1 ?_
                show Steps p.tables e below (T56.setTop (mkF m 211 #[.val (.int p0), .val (.int p1), .val (.int p2), .val (.int p3), .val (.int (Int32.ofNat sz)), .val (.ref b1), .val (.int (1 : Int32)), .val (.int (Int32.ofNat i)), .val (.int (Int32.ofNat j)), .val (.int ((1 : Int32) + (-1 : Int32))), .val (.int (((p3.toUInt32 >>> ((3 : Int32) &&& 31).toUInt32).toInt32) &&& (3 : Int32)))] [])) _
                refine XS.iload X56.here hx rfl (hb hby at_211) rfl ?_
                show Steps p.tables e below (T56.setTop (mkF m 213 #[.val (.int p0), .val (.int p1), .val (.int p2), .val (.int p3), .val (.int (Int32.ofNat sz)), .val (.ref b1), .val (.int (1 : Int32)), .val (.int (Int32.ofNat i)), .val (.int (Int32.ofNat j)), .val (.int ((1 : Int32) + (-1 : Int32))), .val (.int (((p3.toUInt32 >>> ((3 : Int32) &&& 31).toUInt32).toInt32) &&& (3 : Int32)))] [(.int ((1 : Int32) + (-1 : Int32)))])) _
                refine XS.ifYes X56.here hx rfl (pc0 := 213) (pc' := 255) rfl (hb hby at_213) rfl ((if0 _ _).trans (flt (by decide)).2.2.2) (by decide) (by decide) ?_
                show Steps p.tables e below (T56.setTop (mkF m 255 #[.val (.int p0), .val (.int p1), .val (.int p2), .val (.int p3), .val (.int (Int32.ofNat sz)), .val (.ref b1), .val (.int (1 : Int32)), .val (.int (Int32.ofNat i)), .val (.int (Int32.ofNat j)), .val (.int ((1 : Int32) + (-1 : Int32))), .val (.int (((p3.toUInt32 >>> ((3 : Int32) &&& 31).toUInt32).toInt32) &&& (3 : Int32)))] [])) _
                refine XS.iload X56.here hx rfl (hb hby at_255) rfl ?_
                show Steps p.tables e below (T56.setTop (mkF m 257 #[.val (.int p0), .val (.int p1), .val (.int p2), .val (.int p3), .val (.int (Int32.ofNat sz)), .val (.ref b1), .val (.int (1 : Int32)), .val (.int (Int32.ofNat i)), .val (.int (Int32.ofNat j)), .val (.int ((1 : Int32) + (-1 : Int32))), .val (.int (((p3.toUInt32 >>> ((3 : Int32) &&& 31).toUInt32).toInt32) &&& (3 : Int32)))] [(.int (1 : Int32))])) _
                exact retN X56 hx (t := .boolean) Bd.returns (by simp) (hb hby at_257) hr
              · exact ⟨(by first | rfl | simp [hc5, hc10, hc34, hc47, hc50, hc58]), N56⟩
        · skip
          have hc47' : ¬ j = i := fun q => hc47 ((own_inj (by omega) (by omega)).mpr q)
          obtain ⟨cq59, kq59, q59a, q59b, q59c⟩ := isOf hZ rfl Ex45
          obtain ⟨_, _, ⟨T59, L59, k59, n59⟩, -, X59, ⟨Lc59, hQ59, l59, y59, z59⟩, st59⟩ := X45.virtualBack hx (y := (⟨"com/example/halfword/halfword/verify/RoundRobinSet", "isEmpty", "()Z"⟩ : MethodName)) (z := (⟨"com/example/halfword/halfword/verify/RoundRobinSet", "isEmpty", "()Z"⟩ : MethodName)) hown (mvT hZ (hw _ (List.mem_of_getElem? (i := 26) rfl))) (mvT hZ (hw _ (List.mem_of_getElem? (i := 27) rfl))) (notFace_of_selects (args := #[]) (mvT hZ (hw _ (List.mem_of_getElem? (i := 29) rfl)))) (mvT hZ (hw _ (List.mem_of_getElem? (i := 29) rfl))) (mvT hZ (hw _ (List.mem_of_getElem? (i := 28) rfl))) (by decide) (backOf (W := 0) (rEm l Z a0 hw [] b1 sz 0 (Ad (Ad (fun _ => False) i) j) (0 : Int32) T45.heap n0 (Rr45.le) Rr45 (Or.inr ⟨rfl, Cnt.some (c := 1) (Cnt.two hc47')⟩)) hZ (hw _ (List.mem_of_getElem? (i := 30) rfl)) (hw _ (List.mem_of_getElem? (i := 3) rfl)) (by decide) (by decide)) q59a q59c (g := (mkF m 135 #[.val (.int p0), .val (.int p1), .val (.int p2), .val (.int p3), .val (.int (Int32.ofNat sz)), .val (.ref b1), .val (.int (1 : Int32)), .val (.int (Int32.ofNat i)), .val (.int (Int32.ofNat j)), .val (.int ((1 : Int32) + (1 : Int32))), .unset] [(.ref b1)])) rfl (by rw [hml]; rfl) (Steps.refl _) (argsL := []) (rest := []) (lenOf pd___Z rfl) rfl (by show 2 * 0 + _ ≤ _; exact Nat.le_of_eq rfl) (hb hby at_135) (fun _ _ => ⟨rfl, rfl, (by decide : 6 + 0 ≤ _), (by decide : 17415 + 0 ≤ _)⟩)
          dsimp only [Pt.U, Pt.locs, Pt.cells, Pt.slots] at X59 l59 y59 z59 st59 hQ59
          rw [l59, y59, z59] at X59
          obtain ⟨rfl, N59q, e59⟩ := hQ59
          have N59 := Fr.app N45 N59q
          have pre60 : ∀ t, Steps p.tables e below (T59.setTop (mkF m 158 #[.val (.int p0), .val (.int p1), .val (.int p2), .val (.int p3), .val (.int (Int32.ofNat sz)), .val (.ref b1), .val (.int (1 : Int32)), .val (.int (Int32.ofNat i)), .val (.int (Int32.ofNat j)), .val (.int ((1 : Int32) + (1 : Int32))), .val (.int (((p3.toUInt32 >>> ((3 : Int32) &&& 31).toUInt32).toInt32) &&& (3 : Int32)))] [(.int (1 : Int32)), (.int (((p3.toUInt32 >>> ((3 : Int32) &&& 31).toUInt32).toInt32) &&& (3 : Int32)))])) t → Steps p.tables e below (s₁.setTop (entryFrame m #[(.int p0), (.int p1), (.int p2), (.int p3)] maxLocals)) t := by
            intro t kt
            refine pre46 t ?_
            show Steps p.tables e below (T45.setTop (mkF m 122 #[.val (.int p0), .val (.int p1), .val (.int p2), .val (.int p3), .val (.int (Int32.ofNat sz)), .val (.ref b1), .val (.int (1 : Int32)), .val (.int (Int32.ofNat i)), .val (.int (Int32.ofNat j)), .val (.int (1 : Int32)), .unset] [(.int (Int32.ofNat i)), (.int (Int32.ofNat j))])) _
            refine XS.icmpNo X45.here hx rfl (hb hby at_122) rfl (feq hc47).1 ?_
            show Steps p.tables e below (T45.setTop (mkF m 125 #[.val (.int p0), .val (.int p1), .val (.int p2), .val (.int p3), .val (.int (Int32.ofNat sz)), .val (.ref b1), .val (.int (1 : Int32)), .val (.int (Int32.ofNat i)), .val (.int (Int32.ofNat j)), .val (.int (1 : Int32)), .unset] [])) _
            refine XS.iinc X45.here hx rfl (hb hby at_125) rfl (l' := #[.val (.int p0), .val (.int p1), .val (.int p2), .val (.int p3), .val (.int (Int32.ofNat sz)), .val (.ref b1), .val (.int (1 : Int32)), .val (.int (Int32.ofNat i)), .val (.int (Int32.ofNat j)), .val (.int ((1 : Int32) + (1 : Int32))), .unset]) rfl ?_
            show Steps p.tables e below (T45.setTop (mkF m 128 #[.val (.int p0), .val (.int p1), .val (.int p2), .val (.int p3), .val (.int (Int32.ofNat sz)), .val (.ref b1), .val (.int (1 : Int32)), .val (.int (Int32.ofNat i)), .val (.int (Int32.ofNat j)), .val (.int ((1 : Int32) + (1 : Int32))), .unset] [])) _
            refine XS.iload X45.here hx rfl (hb hby at_128) rfl ?_
            show Steps p.tables e below (T45.setTop (mkF m 130 #[.val (.int p0), .val (.int p1), .val (.int p2), .val (.int p3), .val (.int (Int32.ofNat sz)), .val (.ref b1), .val (.int (1 : Int32)), .val (.int (Int32.ofNat i)), .val (.int (Int32.ofNat j)), .val (.int ((1 : Int32) + (1 : Int32))), .unset] [(.int (1 : Int32))])) _
            refine XS.ifNo X45.here hx rfl (hb hby at_130) rfl ((if0 _ _).trans (feq (by decide : ¬ ((1 : Int32) = (0 : Int32)))).1) ?_
            show Steps p.tables e below (T45.setTop (mkF m 133 #[.val (.int p0), .val (.int p1), .val (.int p2), .val (.int p3), .val (.int (Int32.ofNat sz)), .val (.ref b1), .val (.int (1 : Int32)), .val (.int (Int32.ofNat i)), .val (.int (Int32.ofNat j)), .val (.int ((1 : Int32) + (1 : Int32))), .unset] [])) _
            refine XS.aload X45.here hx rfl (hb hby at_133) rfl rfl ?_
            show Steps p.tables e below (T45.setTop (mkF m 135 #[.val (.int p0), .val (.int p1), .val (.int p2), .val (.int p3), .val (.int (Int32.ofNat sz)), .val (.ref b1), .val (.int (1 : Int32)), .val (.int (Int32.ofNat i)), .val (.int (Int32.ofNat j)), .val (.int ((1 : Int32) + (1 : Int32))), .unset] [(.ref b1)])) _
            refine st59.trans ?_
            show Steps p.tables e below (T59.setTop (mkF m 138 #[.val (.int p0), .val (.int p1), .val (.int p2), .val (.int p3), .val (.int (Int32.ofNat sz)), .val (.ref b1), .val (.int (1 : Int32)), .val (.int (Int32.ofNat i)), .val (.int (Int32.ofNat j)), .val (.int ((1 : Int32) + (1 : Int32))), .unset] [(.int (0 : Int32))])) _
            refine XS.ifNo X59.here hx rfl (hb hby at_138) rfl ((if0 _ _).trans (teq (by decide : (0 : Int32) = (0 : Int32))).2) ?_
            show Steps p.tables e below (T59.setTop (mkF m 141 #[.val (.int p0), .val (.int p1), .val (.int p2), .val (.int p3), .val (.int (Int32.ofNat sz)), .val (.ref b1), .val (.int (1 : Int32)), .val (.int (Int32.ofNat i)), .val (.int (Int32.ofNat j)), .val (.int ((1 : Int32) + (1 : Int32))), .unset] [])) _
            refine XS.iconst X59.here hx rfl (hb hby at_141) ?_
            show Steps p.tables e below (T59.setTop (mkF m 142 #[.val (.int p0), .val (.int p1), .val (.int p2), .val (.int p3), .val (.int (Int32.ofNat sz)), .val (.ref b1), .val (.int (1 : Int32)), .val (.int (Int32.ofNat i)), .val (.int (Int32.ofNat j)), .val (.int ((1 : Int32) + (1 : Int32))), .unset] [(.int (1 : Int32))])) _
            refine XS.goto X59.here hx rfl (pc0 := 142) (pc' := 146) rfl (hb hby at_142) (by decide) (by decide) ?_
            show Steps p.tables e below (T59.setTop (mkF m 146 #[.val (.int p0), .val (.int p1), .val (.int p2), .val (.int p3), .val (.int (Int32.ofNat sz)), .val (.ref b1), .val (.int (1 : Int32)), .val (.int (Int32.ofNat i)), .val (.int (Int32.ofNat j)), .val (.int ((1 : Int32) + (1 : Int32))), .unset] [(.int (1 : Int32))])) _
            refine XS.istore X59.here hx rfl (hb hby at_146) rfl (l' := #[.val (.int p0), .val (.int p1), .val (.int p2), .val (.int p3), .val (.int (Int32.ofNat sz)), .val (.ref b1), .val (.int (1 : Int32)), .val (.int (Int32.ofNat i)), .val (.int (Int32.ofNat j)), .val (.int ((1 : Int32) + (1 : Int32))), .unset]) rfl ?_
            show Steps p.tables e below (T59.setTop (mkF m 148 #[.val (.int p0), .val (.int p1), .val (.int p2), .val (.int p3), .val (.int (Int32.ofNat sz)), .val (.ref b1), .val (.int (1 : Int32)), .val (.int (Int32.ofNat i)), .val (.int (Int32.ofNat j)), .val (.int ((1 : Int32) + (1 : Int32))), .unset] [])) _
            refine XS.iloadN X59.here hx rfl (hb hby at_148) rfl ?_
            show Steps p.tables e below (T59.setTop (mkF m 149 #[.val (.int p0), .val (.int p1), .val (.int p2), .val (.int p3), .val (.int (Int32.ofNat sz)), .val (.ref b1), .val (.int (1 : Int32)), .val (.int (Int32.ofNat i)), .val (.int (Int32.ofNat j)), .val (.int ((1 : Int32) + (1 : Int32))), .unset] [(.int p3)])) _
            refine XS.iconst X59.here hx rfl (hb hby at_149) ?_
            show Steps p.tables e below (T59.setTop (mkF m 150 #[.val (.int p0), .val (.int p1), .val (.int p2), .val (.int p3), .val (.int (Int32.ofNat sz)), .val (.ref b1), .val (.int (1 : Int32)), .val (.int (Int32.ofNat i)), .val (.int (Int32.ofNat j)), .val (.int ((1 : Int32) + (1 : Int32))), .unset] [(.int (3 : Int32)), (.int p3)])) _
            refine XS.iushr X59.here hx rfl (hb hby at_150) rfl ?_
            show Steps p.tables e below (T59.setTop (mkF m 151 #[.val (.int p0), .val (.int p1), .val (.int p2), .val (.int p3), .val (.int (Int32.ofNat sz)), .val (.ref b1), .val (.int (1 : Int32)), .val (.int (Int32.ofNat i)), .val (.int (Int32.ofNat j)), .val (.int ((1 : Int32) + (1 : Int32))), .unset] [(.int ((p3.toUInt32 >>> ((3 : Int32) &&& 31).toUInt32).toInt32))])) _
            refine XS.iconst X59.here hx rfl (hb hby at_151) ?_
            show Steps p.tables e below (T59.setTop (mkF m 152 #[.val (.int p0), .val (.int p1), .val (.int p2), .val (.int p3), .val (.int (Int32.ofNat sz)), .val (.ref b1), .val (.int (1 : Int32)), .val (.int (Int32.ofNat i)), .val (.int (Int32.ofNat j)), .val (.int ((1 : Int32) + (1 : Int32))), .unset] [(.int (3 : Int32)), (.int ((p3.toUInt32 >>> ((3 : Int32) &&& 31).toUInt32).toInt32))])) _
            refine XS.iand X59.here hx rfl (hb hby at_152) rfl ?_
            show Steps p.tables e below (T59.setTop (mkF m 153 #[.val (.int p0), .val (.int p1), .val (.int p2), .val (.int p3), .val (.int (Int32.ofNat sz)), .val (.ref b1), .val (.int (1 : Int32)), .val (.int (Int32.ofNat i)), .val (.int (Int32.ofNat j)), .val (.int ((1 : Int32) + (1 : Int32))), .unset] [(.int (((p3.toUInt32 >>> ((3 : Int32) &&& 31).toUInt32).toInt32) &&& (3 : Int32)))])) _
            refine XS.istore X59.here hx rfl (hb hby at_153) rfl (l' := #[.val (.int p0), .val (.int p1), .val (.int p2), .val (.int p3), .val (.int (Int32.ofNat sz)), .val (.ref b1), .val (.int (1 : Int32)), .val (.int (Int32.ofNat i)), .val (.int (Int32.ofNat j)), .val (.int ((1 : Int32) + (1 : Int32))), .val (.int (((p3.toUInt32 >>> ((3 : Int32) &&& 31).toUInt32).toInt32) &&& (3 : Int32)))]) rfl ?_
            show Steps p.tables e below (T59.setTop (mkF m 155 #[.val (.int p0), .val (.int p1), .val (.int p2), .val (.int p3), .val (.int (Int32.ofNat sz)), .val (.ref b1), .val (.int (1 : Int32)), .val (.int (Int32.ofNat i)), .val (.int (Int32.ofNat j)), .val (.int ((1 : Int32) + (1 : Int32))), .val (.int (((p3.toUInt32 >>> ((3 : Int32) &&& 31).toUInt32).toInt32) &&& (3 : Int32)))] [])) _
            refine XS.iload X59.here hx rfl (hb hby at_155) rfl ?_
            show Steps p.tables e below (T59.setTop (mkF m 157 #[.val (.int p0), .val (.int p1), .val (.int p2), .val (.int p3), .val (.int (Int32.ofNat sz)), .val (.ref b1), .val (.int (1 : Int32)), .val (.int (Int32.ofNat i)), .val (.int (Int32.ofNat j)), .val (.int ((1 : Int32) + (1 : Int32))), .val (.int (((p3.toUInt32 >>> ((3 : Int32) &&& 31).toUInt32).toInt32) &&& (3 : Int32)))] [(.int (((p3.toUInt32 >>> ((3 : Int32) &&& 31).toUInt32).toInt32) &&& (3 : Int32)))])) _
            refine XS.iconst X59.here hx rfl (hb hby at_157) ?_
            exact kt
          by_cases hc61 : (((p3.toUInt32 >>> ((3 : Int32) &&& 31).toUInt32).toInt32) &&& (3 : Int32)) < (1 : Int32)
          · skip
            have pre62 : ∀ t, Steps p.tables e below (T59.setTop (mkF m 208 #[.val (.int p0), .val (.int p1), .val (.int p2), .val (.int p3), .val (.int (Int32.ofNat sz)), .val (.ref b1), .val (.int (1 : Int32)), .val (.int (Int32.ofNat i)), .val (.int (Int32.ofNat j)), .val (.int ((1 : Int32) + (1 : Int32))), .val (.int (((p3.toUInt32 >>> ((3 : Int32) &&& 31).toUInt32).toInt32) &&& (3 : Int32)))] [(.int (2 : Int32)), (.int (((p3.toUInt32 >>> ((3 : Int32) &&& 31).toUInt32).toInt32) &&& (3 : Int32)))])) t → Steps p.tables e below (s₁.setTop (entryFrame m #[(.int p0), (.int p1), (.int p2), (.int p3)] maxLocals)) t := by
              intro t kt
              refine pre60 t ?_
              show Steps p.tables e below (T59.setTop (mkF m 158 #[.val (.int p0), .val (.int p1), .val (.int p2), .val (.int p3), .val (.int (Int32.ofNat sz)), .val (.ref b1), .val (.int (1 : Int32)), .val (.int (Int32.ofNat i)), .val (.int (Int32.ofNat j)), .val (.int ((1 : Int32) + (1 : Int32))), .val (.int (((p3.toUInt32 >>> ((3 : Int32) &&& 31).toUInt32).toInt32) &&& (3 : Int32)))] [(.int (1 : Int32)), (.int (((p3.toUInt32 >>> ((3 : Int32) &&& 31).toUInt32).toInt32) &&& (3 : Int32)))])) _
              refine XS.icmpYes X59.here hx rfl (pc0 := 158) (pc' := 205) rfl (hb hby at_158) rfl (tlt hc61).1 (by decide) (by decide) ?_
              show Steps p.tables e below (T59.setTop (mkF m 205 #[.val (.int p0), .val (.int p1), .val (.int p2), .val (.int p3), .val (.int (Int32.ofNat sz)), .val (.ref b1), .val (.int (1 : Int32)), .val (.int (Int32.ofNat i)), .val (.int (Int32.ofNat j)), .val (.int ((1 : Int32) + (1 : Int32))), .val (.int (((p3.toUInt32 >>> ((3 : Int32) &&& 31).toUInt32).toInt32) &&& (3 : Int32)))] [])) _
              refine XS.iload X59.here hx rfl (hb hby at_205) rfl ?_
              show Steps p.tables e below (T59.setTop (mkF m 207 #[.val (.int p0), .val (.int p1), .val (.int p2), .val (.int p3), .val (.int (Int32.ofNat sz)), .val (.ref b1), .val (.int (1 : Int32)), .val (.int (Int32.ofNat i)), .val (.int (Int32.ofNat j)), .val (.int ((1 : Int32) + (1 : Int32))), .val (.int (((p3.toUInt32 >>> ((3 : Int32) &&& 31).toUInt32).toInt32) &&& (3 : Int32)))] [(.int (((p3.toUInt32 >>> ((3 : Int32) &&& 31).toUInt32).toInt32) &&& (3 : Int32)))])) _
              refine XS.iconst X59.here hx rfl (hb hby at_207) ?_
              exact kt
            by_cases hc63 : (((p3.toUInt32 >>> ((3 : Int32) &&& 31).toUInt32).toInt32) &&& (3 : Int32)) < (2 : Int32)
            · skip
              obtain ⟨fs, hr, hrun, hended, hW, hsame⟩ := X59.leave (v := some (.int (1 : Int32))) (fun h => by rw [Bd.returns] at h; cases h)
              refine ⟨_, _, pre62 _ ?_, hrun, hended, _, _, rfl, ?_, ⟨_, rfl⟩, hW, hsame.mono (by decide) (by decide)⟩
              · skip
                show Steps p.tables e below (T59.setTop (mkF m 208 #[.val (.int p0), .val (.int p1), .val (.int p2), .val (.int p3), .val (.int (Int32.ofNat sz)), .val (.ref b1), .val (.int (1 : Int32)), .val (.int (Int32.ofNat i)), .val (.int (Int32.ofNat j)), .val (.int ((1 : Int32) + (1 : Int32))), .val (.int (((p3.toUInt32 >>> ((3 : Int32) &&& 31).toUInt32).toInt32) &&& (3 : Int32)))] [(.int (2 : Int32)), (.int (((p3.toUInt32 >>> ((3 : Int32) &&& 31).toUInt32).toInt32) &&& (3 : Int32)))])) _
                refine XS.icmpYes X59.here hx rfl (pc0 := 208) (pc' := 255) rfl (hb hby at_208) rfl (tlt hc63).1 (by decide) (by decide) ?_
                show Steps p.tables e below (T59.setTop (mkF m 255 #[.val (.int p0), .val (.int p1), .val (.int p2), .val (.int p3), .val (.int (Int32.ofNat sz)), .val (.ref b1), .val (.int (1 : Int32)), .val (.int (Int32.ofNat i)), .val (.int (Int32.ofNat j)), .val (.int ((1 : Int32) + (1 : Int32))), .val (.int (((p3.toUInt32 >>> ((3 : Int32) &&& 31).toUInt32).toInt32) &&& (3 : Int32)))] [])) _
                refine XS.iload X59.here hx rfl (hb hby at_255) rfl ?_
                show Steps p.tables e below (T59.setTop (mkF m 257 #[.val (.int p0), .val (.int p1), .val (.int p2), .val (.int p3), .val (.int (Int32.ofNat sz)), .val (.ref b1), .val (.int (1 : Int32)), .val (.int (Int32.ofNat i)), .val (.int (Int32.ofNat j)), .val (.int ((1 : Int32) + (1 : Int32))), .val (.int (((p3.toUInt32 >>> ((3 : Int32) &&& 31).toUInt32).toInt32) &&& (3 : Int32)))] [(.int (1 : Int32))])) _
                exact retN X59 hx (t := .boolean) Bd.returns (by simp) (hb hby at_257) hr
              · exact ⟨(by first | rfl | simp [hc5, hc10, hc34, hc47, hc61, hc63]), N59⟩
            · skip
              obtain ⟨cq64, kq64, q64a, q64b, q64c⟩ := isOf hZ e59 Ex45
              obtain ⟨_, _, ⟨T64, L64, k64, n64⟩, -, X64, ⟨Lc64, hQ64, l64, y64, z64⟩, st64⟩ := X59.virtualBack hx (y := (⟨"com/example/halfword/halfword/verify/RoundRobinSet", "take", "()I"⟩ : MethodName)) (z := (⟨"com/example/halfword/halfword/verify/RoundRobinSet", "take", "()I"⟩ : MethodName)) hown (mvT hZ (hw _ (List.mem_of_getElem? (i := 45) rfl))) (mvT hZ (hw _ (List.mem_of_getElem? (i := 46) rfl))) (notFace_of_selects (args := #[]) (mvT hZ (hw _ (List.mem_of_getElem? (i := 48) rfl)))) (mvT hZ (hw _ (List.mem_of_getElem? (i := 48) rfl))) (mvT hZ (hw _ (List.mem_of_getElem? (i := 47) rfl))) (by decide) (backOf (W := 0) (rTk l Z a0 hw [] b1 sz 0 (Ad (Ad (fun _ => False) i) j) T45.heap n0 (Rr45.le) Rr45 (Cnt.some (c := 1) (Cnt.two hc47'))) hZ (hw _ (List.mem_of_getElem? (i := 49) rfl)) (hw _ (List.mem_of_getElem? (i := 3) rfl)) (by decide) (by decide)) q64a q64c (g := (mkF m 218 #[.val (.int p0), .val (.int p1), .val (.int p2), .val (.int p3), .val (.int (Int32.ofNat sz)), .val (.ref b1), .val (.int (1 : Int32)), .val (.int (Int32.ofNat i)), .val (.int (Int32.ofNat j)), .val (.int ((1 : Int32) + (1 : Int32))), .val (.int (((p3.toUInt32 >>> ((3 : Int32) &&& 31).toUInt32).toInt32) &&& (3 : Int32)))] [(.ref b1)])) rfl (by rw [hml]; rfl) (Steps.refl _) (argsL := []) (rest := []) (lenOf pd___I rfl) rfl (by show 2 * 0 + _ ≤ _; exact Nat.le_of_eq rfl) (hb hby at_218) (fun _ _ => ⟨rfl, e59, (by decide : 6 + 0 ≤ _), (by decide : 17415 + 0 ≤ _)⟩)
              dsimp only [Pt.U, Pt.locs, Pt.cells, Pt.slots] at X64 l64 y64 z64 st64 hQ64
              rw [l64, y64, z64] at X64
              obtain ⟨x64, zz64, rfl, N64q, hMx64, Rr64⟩ := hQ64
              have N64 := Fr.app N59 N64q
              have Ex64 := Rr64.ex
              obtain ⟨cq65, kq65, q65a, q65b, q65c⟩ := isOf hZ rfl Ex64
              obtain ⟨_, _, ⟨T65, L65, k65, n65⟩, -, X65, ⟨Lc65, hQ65, l65, y65, z65⟩, st65⟩ := X64.virtualBack hx (y := (⟨"com/example/halfword/halfword/verify/RoundRobinSet", "isEmpty", "()Z"⟩ : MethodName)) (z := (⟨"com/example/halfword/halfword/verify/RoundRobinSet", "isEmpty", "()Z"⟩ : MethodName)) hown (mvT hZ (hw _ (List.mem_of_getElem? (i := 26) rfl))) (mvT hZ (hw _ (List.mem_of_getElem? (i := 27) rfl))) (notFace_of_selects (args := #[]) (mvT hZ (hw _ (List.mem_of_getElem? (i := 29) rfl)))) (mvT hZ (hw _ (List.mem_of_getElem? (i := 29) rfl))) (mvT hZ (hw _ (List.mem_of_getElem? (i := 28) rfl))) (by decide) (backOf (W := 0) (rEm l Z a0 hw [] b1 sz (x64 + 1) (Rm (Ad (Ad (fun _ => False) i) j) x64) (0 : Int32) T64.heap n0 (Rr64.le) Rr64 (Or.inr ⟨rfl, Cnt.some (c := 0) (Cnt.rm (c := 1) (Cnt.two hc47') hMx64)⟩)) hZ (hw _ (List.mem_of_getElem? (i := 30) rfl)) (hw _ (List.mem_of_getElem? (i := 3) rfl)) (by decide) (by decide)) q65a q65c (g := (mkF m 232 #[.val (.int p0), .val (.int p1), .val (.int p2), .val (.int p3), .val (.int (Int32.ofNat sz)), .val (.ref b1), .val (.int (1 : Int32)), .val (.int (Int32.ofNat i)), .val (.int (Int32.ofNat j)), .val (.int (((1 : Int32) + (1 : Int32)) + (-1 : Int32))), .val (.int (((p3.toUInt32 >>> ((3 : Int32) &&& 31).toUInt32).toInt32) &&& (3 : Int32)))] [(.ref b1)])) rfl (by rw [hml]; rfl) (Steps.refl _) (argsL := []) (rest := []) (lenOf pd___Z rfl) rfl (by show 2 * 0 + _ ≤ _; exact Nat.le_of_eq rfl) (hb hby at_232) (fun _ _ => ⟨rfl, rfl, (by decide : 6 + 0 ≤ _), (by decide : 17415 + 0 ≤ _)⟩)
              dsimp only [Pt.U, Pt.locs, Pt.cells, Pt.slots] at X65 l65 y65 z65 st65 hQ65
              rw [l65, y65, z65] at X65
              obtain ⟨rfl, N65q, e65⟩ := hQ65
              have N65 := Fr.app N64 N65q
              obtain ⟨fs, hr, hrun, hended, hW, hsame⟩ := X65.leave (v := some (.int (1 : Int32))) (fun h => by rw [Bd.returns] at h; cases h)
              refine ⟨_, _, pre62 _ ?_, hrun, hended, _, _, rfl, ?_, ⟨_, rfl⟩, hW, hsame.mono (by decide) (by decide)⟩
              · skip
                show Steps p.tables e below (T59.setTop (mkF m 208 #[.val (.int p0), .val (.int p1), .val (.int p2), .val (.int p3), .val (.int (Int32.ofNat sz)), .val (.ref b1), .val (.int (1 : Int32)), .val (.int (Int32.ofNat i)), .val (.int (Int32.ofNat j)), .val (.int ((1 : Int32) + (1 : Int32))), .val (.int (((p3.toUInt32 >>> ((3 : Int32) &&& 31).toUInt32).toInt32) &&& (3 : Int32)))] [(.int (2 : Int32)), (.int (((p3.toUInt32 >>> ((3 : Int32) &&& 31).toUInt32).toInt32) &&& (3 : Int32)))])) _
                refine XS.icmpNo X59.here hx rfl (hb hby at_208) rfl (flt hc63).1 ?_
                show Steps p.tables e below (T59.setTop (mkF m 211 #[.val (.int p0), .val (.int p1), .val (.int p2), .val (.int p3), .val (.int (Int32.ofNat sz)), .val (.ref b1), .val (.int (1 : Int32)), .val (.int (Int32.ofNat i)), .val (.int (Int32.ofNat j)), .val (.int ((1 : Int32) + (1 : Int32))), .val (.int (((p3.toUInt32 >>> ((3 : Int32) &&& 31).toUInt32).toInt32) &&& (3 : Int32)))] [])) _
                refine XS.iload X59.here hx rfl (hb hby at_211) rfl ?_
                show Steps p.tables e below (T59.setTop (mkF m 213 #[.val (.int p0), .val (.int p1), .val (.int p2), .val (.int p3), .val (.int (Int32.ofNat sz)), .val (.ref b1), .val (.int (1 : Int32)), .val (.int (Int32.ofNat i)), .val (.int (Int32.ofNat j)), .val (.int ((1 : Int32) + (1 : Int32))), .val (.int (((p3.toUInt32 >>> ((3 : Int32) &&& 31).toUInt32).toInt32) &&& (3 : Int32)))] [(.int ((1 : Int32) + (1 : Int32)))])) _
                refine XS.ifNo X59.here hx rfl (hb hby at_213) rfl ((if0 _ _).trans (tlt (by decide)).2.2.2) ?_
                show Steps p.tables e below (T59.setTop (mkF m 216 #[.val (.int p0), .val (.int p1), .val (.int p2), .val (.int p3), .val (.int (Int32.ofNat sz)), .val (.ref b1), .val (.int (1 : Int32)), .val (.int (Int32.ofNat i)), .val (.int (Int32.ofNat j)), .val (.int ((1 : Int32) + (1 : Int32))), .val (.int (((p3.toUInt32 >>> ((3 : Int32) &&& 31).toUInt32).toInt32) &&& (3 : Int32)))] [])) _
                refine XS.aload X59.here hx rfl (hb hby at_216) rfl rfl ?_
                show Steps p.tables e below (T59.setTop (mkF m 218 #[.val (.int p0), .val (.int p1), .val (.int p2), .val (.int p3), .val (.int (Int32.ofNat sz)), .val (.ref b1), .val (.int (1 : Int32)), .val (.int (Int32.ofNat i)), .val (.int (Int32.ofNat j)), .val (.int ((1 : Int32) + (1 : Int32))), .val (.int (((p3.toUInt32 >>> ((3 : Int32) &&& 31).toUInt32).toInt32) &&& (3 : Int32)))] [(.ref b1)])) _
                refine st64.trans ?_
                show Steps p.tables e below (T64.setTop (mkF m 221 #[.val (.int p0), .val (.int p1), .val (.int p2), .val (.int p3), .val (.int (Int32.ofNat sz)), .val (.ref b1), .val (.int (1 : Int32)), .val (.int (Int32.ofNat i)), .val (.int (Int32.ofNat j)), .val (.int ((1 : Int32) + (1 : Int32))), .val (.int (((p3.toUInt32 >>> ((3 : Int32) &&& 31).toUInt32).toInt32) &&& (3 : Int32)))] [(.int zz64)])) _
                refine XS.pop X64.here hx rfl (hb hby at_221) rfl rfl ?_
                show Steps p.tables e below (T64.setTop (mkF m 222 #[.val (.int p0), .val (.int p1), .val (.int p2), .val (.int p3), .val (.int (Int32.ofNat sz)), .val (.ref b1), .val (.int (1 : Int32)), .val (.int (Int32.ofNat i)), .val (.int (Int32.ofNat j)), .val (.int ((1 : Int32) + (1 : Int32))), .val (.int (((p3.toUInt32 >>> ((3 : Int32) &&& 31).toUInt32).toInt32) &&& (3 : Int32)))] [])) _
                refine XS.iinc X64.here hx rfl (hb hby at_222) rfl (l' := #[.val (.int p0), .val (.int p1), .val (.int p2), .val (.int p3), .val (.int (Int32.ofNat sz)), .val (.ref b1), .val (.int (1 : Int32)), .val (.int (Int32.ofNat i)), .val (.int (Int32.ofNat j)), .val (.int (((1 : Int32) + (1 : Int32)) + (-1 : Int32))), .val (.int (((p3.toUInt32 >>> ((3 : Int32) &&& 31).toUInt32).toInt32) &&& (3 : Int32)))]) rfl ?_
                show Steps p.tables e below (T64.setTop (mkF m 225 #[.val (.int p0), .val (.int p1), .val (.int p2), .val (.int p3), .val (.int (Int32.ofNat sz)), .val (.ref b1), .val (.int (1 : Int32)), .val (.int (Int32.ofNat i)), .val (.int (Int32.ofNat j)), .val (.int (((1 : Int32) + (1 : Int32)) + (-1 : Int32))), .val (.int (((p3.toUInt32 >>> ((3 : Int32) &&& 31).toUInt32).toInt32) &&& (3 : Int32)))] [])) _
                refine XS.iload X64.here hx rfl (hb hby at_225) rfl ?_
                show Steps p.tables e below (T64.setTop (mkF m 227 #[.val (.int p0), .val (.int p1), .val (.int p2), .val (.int p3), .val (.int (Int32.ofNat sz)), .val (.ref b1), .val (.int (1 : Int32)), .val (.int (Int32.ofNat i)), .val (.int (Int32.ofNat j)), .val (.int (((1 : Int32) + (1 : Int32)) + (-1 : Int32))), .val (.int (((p3.toUInt32 >>> ((3 : Int32) &&& 31).toUInt32).toInt32) &&& (3 : Int32)))] [(.int (1 : Int32))])) _
                refine XS.ifNo X64.here hx rfl (hb hby at_227) rfl ((if0 _ _).trans (feq (by decide : ¬ ((1 : Int32) = (0 : Int32)))).1) ?_
                show Steps p.tables e below (T64.setTop (mkF m 230 #[.val (.int p0), .val (.int p1), .val (.int p2), .val (.int p3), .val (.int (Int32.ofNat sz)), .val (.ref b1), .val (.int (1 : Int32)), .val (.int (Int32.ofNat i)), .val (.int (Int32.ofNat j)), .val (.int (((1 : Int32) + (1 : Int32)) + (-1 : Int32))), .val (.int (((p3.toUInt32 >>> ((3 : Int32) &&& 31).toUInt32).toInt32) &&& (3 : Int32)))] [])) _
                refine XS.aload X64.here hx rfl (hb hby at_230) rfl rfl ?_
                show Steps p.tables e below (T64.setTop (mkF m 232 #[.val (.int p0), .val (.int p1), .val (.int p2), .val (.int p3), .val (.int (Int32.ofNat sz)), .val (.ref b1), .val (.int (1 : Int32)), .val (.int (Int32.ofNat i)), .val (.int (Int32.ofNat j)), .val (.int (((1 : Int32) + (1 : Int32)) + (-1 : Int32))), .val (.int (((p3.toUInt32 >>> ((3 : Int32) &&& 31).toUInt32).toInt32) &&& (3 : Int32)))] [(.ref b1)])) _
                refine st65.trans ?_
                show Steps p.tables e below (T65.setTop (mkF m 235 #[.val (.int p0), .val (.int p1), .val (.int p2), .val (.int p3), .val (.int (Int32.ofNat sz)), .val (.ref b1), .val (.int (1 : Int32)), .val (.int (Int32.ofNat i)), .val (.int (Int32.ofNat j)), .val (.int (((1 : Int32) + (1 : Int32)) + (-1 : Int32))), .val (.int (((p3.toUInt32 >>> ((3 : Int32) &&& 31).toUInt32).toInt32) &&& (3 : Int32)))] [(.int (0 : Int32))])) _
                refine XS.iload X65.here hx rfl (hb hby at_235) rfl ?_
                show Steps p.tables e below (T65.setTop (mkF m 237 #[.val (.int p0), .val (.int p1), .val (.int p2), .val (.int p3), .val (.int (Int32.ofNat sz)), .val (.ref b1), .val (.int (1 : Int32)), .val (.int (Int32.ofNat i)), .val (.int (Int32.ofNat j)), .val (.int (((1 : Int32) + (1 : Int32)) + (-1 : Int32))), .val (.int (((p3.toUInt32 >>> ((3 : Int32) &&& 31).toUInt32).toInt32) &&& (3 : Int32)))] [(.int (((1 : Int32) + (1 : Int32)) + (-1 : Int32))), (.int (0 : Int32))])) _
                refine XS.ifYes X65.here hx rfl (pc0 := 237) (pc' := 244) rfl (hb hby at_237) rfl ((if0 _ _).trans (feq (by decide)).2) (by decide) (by decide) ?_
                show Steps p.tables e below (T65.setTop (mkF m 244 #[.val (.int p0), .val (.int p1), .val (.int p2), .val (.int p3), .val (.int (Int32.ofNat sz)), .val (.ref b1), .val (.int (1 : Int32)), .val (.int (Int32.ofNat i)), .val (.int (Int32.ofNat j)), .val (.int (((1 : Int32) + (1 : Int32)) + (-1 : Int32))), .val (.int (((p3.toUInt32 >>> ((3 : Int32) &&& 31).toUInt32).toInt32) &&& (3 : Int32)))] [(.int (0 : Int32))])) _
                refine XS.iconst X65.here hx rfl (hb hby at_244) ?_
                show Steps p.tables e below (T65.setTop (mkF m 245 #[.val (.int p0), .val (.int p1), .val (.int p2), .val (.int p3), .val (.int (Int32.ofNat sz)), .val (.ref b1), .val (.int (1 : Int32)), .val (.int (Int32.ofNat i)), .val (.int (Int32.ofNat j)), .val (.int (((1 : Int32) + (1 : Int32)) + (-1 : Int32))), .val (.int (((p3.toUInt32 >>> ((3 : Int32) &&& 31).toUInt32).toInt32) &&& (3 : Int32)))] [(.int (0 : Int32)), (.int (0 : Int32))])) _
                refine XS.icmpNo X65.here hx rfl (hb hby at_245) rfl (teq (by decide : (0 : Int32) = (0 : Int32))).2 ?_
                show Steps p.tables e below (T65.setTop (mkF m 248 #[.val (.int p0), .val (.int p1), .val (.int p2), .val (.int p3), .val (.int (Int32.ofNat sz)), .val (.ref b1), .val (.int (1 : Int32)), .val (.int (Int32.ofNat i)), .val (.int (Int32.ofNat j)), .val (.int (((1 : Int32) + (1 : Int32)) + (-1 : Int32))), .val (.int (((p3.toUInt32 >>> ((3 : Int32) &&& 31).toUInt32).toInt32) &&& (3 : Int32)))] [])) _
                refine XS.iconst X65.here hx rfl (hb hby at_248) ?_
                show Steps p.tables e below (T65.setTop (mkF m 249 #[.val (.int p0), .val (.int p1), .val (.int p2), .val (.int p3), .val (.int (Int32.ofNat sz)), .val (.ref b1), .val (.int (1 : Int32)), .val (.int (Int32.ofNat i)), .val (.int (Int32.ofNat j)), .val (.int (((1 : Int32) + (1 : Int32)) + (-1 : Int32))), .val (.int (((p3.toUInt32 >>> ((3 : Int32) &&& 31).toUInt32).toInt32) &&& (3 : Int32)))] [(.int (1 : Int32))])) _
                refine XS.goto X65.here hx rfl (pc0 := 249) (pc' := 253) rfl (hb hby at_249) (by decide) (by decide) ?_
                show Steps p.tables e below (T65.setTop (mkF m 253 #[.val (.int p0), .val (.int p1), .val (.int p2), .val (.int p3), .val (.int (Int32.ofNat sz)), .val (.ref b1), .val (.int (1 : Int32)), .val (.int (Int32.ofNat i)), .val (.int (Int32.ofNat j)), .val (.int (((1 : Int32) + (1 : Int32)) + (-1 : Int32))), .val (.int (((p3.toUInt32 >>> ((3 : Int32) &&& 31).toUInt32).toInt32) &&& (3 : Int32)))] [(.int (1 : Int32))])) _
                refine XS.istore X65.here hx rfl (hb hby at_253) rfl (l' := #[.val (.int p0), .val (.int p1), .val (.int p2), .val (.int p3), .val (.int (Int32.ofNat sz)), .val (.ref b1), .val (.int (1 : Int32)), .val (.int (Int32.ofNat i)), .val (.int (Int32.ofNat j)), .val (.int (((1 : Int32) + (1 : Int32)) + (-1 : Int32))), .val (.int (((p3.toUInt32 >>> ((3 : Int32) &&& 31).toUInt32).toInt32) &&& (3 : Int32)))]) rfl ?_
                show Steps p.tables e below (T65.setTop (mkF m 255 #[.val (.int p0), .val (.int p1), .val (.int p2), .val (.int p3), .val (.int (Int32.ofNat sz)), .val (.ref b1), .val (.int (1 : Int32)), .val (.int (Int32.ofNat i)), .val (.int (Int32.ofNat j)), .val (.int (((1 : Int32) + (1 : Int32)) + (-1 : Int32))), .val (.int (((p3.toUInt32 >>> ((3 : Int32) &&& 31).toUInt32).toInt32) &&& (3 : Int32)))] [])) _
                refine XS.iload X65.here hx rfl (hb hby at_255) rfl ?_
                show Steps p.tables e below (T65.setTop (mkF m 257 #[.val (.int p0), .val (.int p1), .val (.int p2), .val (.int p3), .val (.int (Int32.ofNat sz)), .val (.ref b1), .val (.int (1 : Int32)), .val (.int (Int32.ofNat i)), .val (.int (Int32.ofNat j)), .val (.int (((1 : Int32) + (1 : Int32)) + (-1 : Int32))), .val (.int (((p3.toUInt32 >>> ((3 : Int32) &&& 31).toUInt32).toInt32) &&& (3 : Int32)))] [(.int (1 : Int32))])) _
                exact retN X65 hx (t := .boolean) Bd.returns (by simp) (hb hby at_257) hr
              · exact ⟨(by first | rfl | simp [hc5, hc10, hc34, hc47, hc61, hc63]), N65⟩
          · skip
            obtain ⟨cq66, kq66, q66a, q66b, q66c⟩ := isOf hZ e59 Ex45
            obtain ⟨_, _, ⟨T66, L66, k66, n66⟩, -, X66, ⟨Lc66, hQ66, l66, y66, z66⟩, st66⟩ := X59.virtualBack hx (y := (⟨"com/example/halfword/halfword/verify/RoundRobinSet", "take", "()I"⟩ : MethodName)) (z := (⟨"com/example/halfword/halfword/verify/RoundRobinSet", "take", "()I"⟩ : MethodName)) hown (mvT hZ (hw _ (List.mem_of_getElem? (i := 45) rfl))) (mvT hZ (hw _ (List.mem_of_getElem? (i := 46) rfl))) (notFace_of_selects (args := #[]) (mvT hZ (hw _ (List.mem_of_getElem? (i := 48) rfl)))) (mvT hZ (hw _ (List.mem_of_getElem? (i := 48) rfl))) (mvT hZ (hw _ (List.mem_of_getElem? (i := 47) rfl))) (by decide) (backOf (W := 0) (rTk l Z a0 hw [] b1 sz 0 (Ad (Ad (fun _ => False) i) j) T45.heap n0 (Rr45.le) Rr45 (Cnt.some (c := 1) (Cnt.two hc47'))) hZ (hw _ (List.mem_of_getElem? (i := 49) rfl)) (hw _ (List.mem_of_getElem? (i := 3) rfl)) (by decide) (by decide)) q66a q66c (g := (mkF m 168 #[.val (.int p0), .val (.int p1), .val (.int p2), .val (.int p3), .val (.int (Int32.ofNat sz)), .val (.ref b1), .val (.int (1 : Int32)), .val (.int (Int32.ofNat i)), .val (.int (Int32.ofNat j)), .val (.int ((1 : Int32) + (1 : Int32))), .val (.int (((p3.toUInt32 >>> ((3 : Int32) &&& 31).toUInt32).toInt32) &&& (3 : Int32)))] [(.ref b1)])) rfl (by rw [hml]; rfl) (Steps.refl _) (argsL := []) (rest := []) (lenOf pd___I rfl) rfl (by show 2 * 0 + _ ≤ _; exact Nat.le_of_eq rfl) (hb hby at_168) (fun _ _ => ⟨rfl, e59, (by decide : 6 + 0 ≤ _), (by decide : 17415 + 0 ≤ _)⟩)
            dsimp only [Pt.U, Pt.locs, Pt.cells, Pt.slots] at X66 l66 y66 z66 st66 hQ66
            rw [l66, y66, z66] at X66
            obtain ⟨x66, zz66, rfl, N66q, hMx66, Rr66⟩ := hQ66
            have N66 := Fr.app N59 N66q
            have Ex66 := Rr66.ex
            obtain ⟨cq67, kq67, q67a, q67b, q67c⟩ := isOf hZ rfl Ex66
            obtain ⟨_, _, ⟨T67, L67, k67, n67⟩, -, X67, ⟨Lc67, hQ67, l67, y67, z67⟩, st67⟩ := X66.virtualBack hx (y := (⟨"com/example/halfword/halfword/verify/RoundRobinSet", "isEmpty", "()Z"⟩ : MethodName)) (z := (⟨"com/example/halfword/halfword/verify/RoundRobinSet", "isEmpty", "()Z"⟩ : MethodName)) hown (mvT hZ (hw _ (List.mem_of_getElem? (i := 26) rfl))) (mvT hZ (hw _ (List.mem_of_getElem? (i := 27) rfl))) (notFace_of_selects (args := #[]) (mvT hZ (hw _ (List.mem_of_getElem? (i := 29) rfl)))) (mvT hZ (hw _ (List.mem_of_getElem? (i := 29) rfl))) (mvT hZ (hw _ (List.mem_of_getElem? (i := 28) rfl))) (by decide) (backOf (W := 0) (rEm l Z a0 hw [] b1 sz (x66 + 1) (Rm (Ad (Ad (fun _ => False) i) j) x66) (0 : Int32) T66.heap n0 (Rr66.le) Rr66 (Or.inr ⟨rfl, Cnt.some (c := 0) (Cnt.rm (c := 1) (Cnt.two hc47') hMx66)⟩)) hZ (hw _ (List.mem_of_getElem? (i := 30) rfl)) (hw _ (List.mem_of_getElem? (i := 3) rfl)) (by decide) (by decide)) q67a q67c (g := (mkF m 182 #[.val (.int p0), .val (.int p1), .val (.int p2), .val (.int p3), .val (.int (Int32.ofNat sz)), .val (.ref b1), .val (.int (1 : Int32)), .val (.int (Int32.ofNat i)), .val (.int (Int32.ofNat j)), .val (.int (((1 : Int32) + (1 : Int32)) + (-1 : Int32))), .val (.int (((p3.toUInt32 >>> ((3 : Int32) &&& 31).toUInt32).toInt32) &&& (3 : Int32)))] [(.ref b1)])) rfl (by rw [hml]; rfl) (Steps.refl _) (argsL := []) (rest := []) (lenOf pd___Z rfl) rfl (by show 2 * 0 + _ ≤ _; exact Nat.le_of_eq rfl) (hb hby at_182) (fun _ _ => ⟨rfl, rfl, (by decide : 6 + 0 ≤ _), (by decide : 17415 + 0 ≤ _)⟩)
            dsimp only [Pt.U, Pt.locs, Pt.cells, Pt.slots] at X67 l67 y67 z67 st67 hQ67
            rw [l67, y67, z67] at X67
            obtain ⟨rfl, N67q, e67⟩ := hQ67
            have N67 := Fr.app N66 N67q
            have pre68 : ∀ t, Steps p.tables e below (T67.setTop (mkF m 208 #[.val (.int p0), .val (.int p1), .val (.int p2), .val (.int p3), .val (.int (Int32.ofNat sz)), .val (.ref b1), .val (.int (1 : Int32)), .val (.int (Int32.ofNat i)), .val (.int (Int32.ofNat j)), .val (.int (((1 : Int32) + (1 : Int32)) + (-1 : Int32))), .val (.int (((p3.toUInt32 >>> ((3 : Int32) &&& 31).toUInt32).toInt32) &&& (3 : Int32)))] [(.int (2 : Int32)), (.int (((p3.toUInt32 >>> ((3 : Int32) &&& 31).toUInt32).toInt32) &&& (3 : Int32)))])) t → Steps p.tables e below (s₁.setTop (entryFrame m #[(.int p0), (.int p1), (.int p2), (.int p3)] maxLocals)) t := by
              intro t kt
              refine pre60 t ?_
              show Steps p.tables e below (T59.setTop (mkF m 158 #[.val (.int p0), .val (.int p1), .val (.int p2), .val (.int p3), .val (.int (Int32.ofNat sz)), .val (.ref b1), .val (.int (1 : Int32)), .val (.int (Int32.ofNat i)), .val (.int (Int32.ofNat j)), .val (.int ((1 : Int32) + (1 : Int32))), .val (.int (((p3.toUInt32 >>> ((3 : Int32) &&& 31).toUInt32).toInt32) &&& (3 : Int32)))] [(.int (1 : Int32)), (.int (((p3.toUInt32 >>> ((3 : Int32) &&& 31).toUInt32).toInt32) &&& (3 : Int32)))])) _
              refine XS.icmpNo X59.here hx rfl (hb hby at_158) rfl (flt hc61).1 ?_
              show Steps p.tables e below (T59.setTop (mkF m 161 #[.val (.int p0), .val (.int p1), .val (.int p2), .val (.int p3), .val (.int (Int32.ofNat sz)), .val (.ref b1), .val (.int (1 : Int32)), .val (.int (Int32.ofNat i)), .val (.int (Int32.ofNat j)), .val (.int ((1 : Int32) + (1 : Int32))), .val (.int (((p3.toUInt32 >>> ((3 : Int32) &&& 31).toUInt32).toInt32) &&& (3 : Int32)))] [])) _
              refine XS.iload X59.here hx rfl (hb hby at_161) rfl ?_
              show Steps p.tables e below (T59.setTop (mkF m 163 #[.val (.int p0), .val (.int p1), .val (.int p2), .val (.int p3), .val (.int (Int32.ofNat sz)), .val (.ref b1), .val (.int (1 : Int32)), .val (.int (Int32.ofNat i)), .val (.int (Int32.ofNat j)), .val (.int ((1 : Int32) + (1 : Int32))), .val (.int (((p3.toUInt32 >>> ((3 : Int32) &&& 31).toUInt32).toInt32) &&& (3 : Int32)))] [(.int ((1 : Int32) + (1 : Int32)))])) _
              refine XS.ifNo X59.here hx rfl (hb hby at_163) rfl ((if0 _ _).trans (tlt (by decide)).2.2.2) ?_
              show Steps p.tables e below (T59.setTop (mkF m 166 #[.val (.int p0), .val (.int p1), .val (.int p2), .val (.int p3), .val (.int (Int32.ofNat sz)), .val (.ref b1), .val (.int (1 : Int32)), .val (.int (Int32.ofNat i)), .val (.int (Int32.ofNat j)), .val (.int ((1 : Int32) + (1 : Int32))), .val (.int (((p3.toUInt32 >>> ((3 : Int32) &&& 31).toUInt32).toInt32) &&& (3 : Int32)))] [])) _
              refine XS.aload X59.here hx rfl (hb hby at_166) rfl rfl ?_
              show Steps p.tables e below (T59.setTop (mkF m 168 #[.val (.int p0), .val (.int p1), .val (.int p2), .val (.int p3), .val (.int (Int32.ofNat sz)), .val (.ref b1), .val (.int (1 : Int32)), .val (.int (Int32.ofNat i)), .val (.int (Int32.ofNat j)), .val (.int ((1 : Int32) + (1 : Int32))), .val (.int (((p3.toUInt32 >>> ((3 : Int32) &&& 31).toUInt32).toInt32) &&& (3 : Int32)))] [(.ref b1)])) _
              refine st66.trans ?_
              show Steps p.tables e below (T66.setTop (mkF m 171 #[.val (.int p0), .val (.int p1), .val (.int p2), .val (.int p3), .val (.int (Int32.ofNat sz)), .val (.ref b1), .val (.int (1 : Int32)), .val (.int (Int32.ofNat i)), .val (.int (Int32.ofNat j)), .val (.int ((1 : Int32) + (1 : Int32))), .val (.int (((p3.toUInt32 >>> ((3 : Int32) &&& 31).toUInt32).toInt32) &&& (3 : Int32)))] [(.int zz66)])) _
              refine XS.pop X66.here hx rfl (hb hby at_171) rfl rfl ?_
              show Steps p.tables e below (T66.setTop (mkF m 172 #[.val (.int p0), .val (.int p1), .val (.int p2), .val (.int p3), .val (.int (Int32.ofNat sz)), .val (.ref b1), .val (.int (1 : Int32)), .val (.int (Int32.ofNat i)), .val (.int (Int32.ofNat j)), .val (.int ((1 : Int32) + (1 : Int32))), .val (.int (((p3.toUInt32 >>> ((3 : Int32) &&& 31).toUInt32).toInt32) &&& (3 : Int32)))] [])) _
              refine XS.iinc X66.here hx rfl (hb hby at_172) rfl (l' := #[.val (.int p0), .val (.int p1), .val (.int p2), .val (.int p3), .val (.int (Int32.ofNat sz)), .val (.ref b1), .val (.int (1 : Int32)), .val (.int (Int32.ofNat i)), .val (.int (Int32.ofNat j)), .val (.int (((1 : Int32) + (1 : Int32)) + (-1 : Int32))), .val (.int (((p3.toUInt32 >>> ((3 : Int32) &&& 31).toUInt32).toInt32) &&& (3 : Int32)))]) rfl ?_
              show Steps p.tables e below (T66.setTop (mkF m 175 #[.val (.int p0), .val (.int p1), .val (.int p2), .val (.int p3), .val (.int (Int32.ofNat sz)), .val (.ref b1), .val (.int (1 : Int32)), .val (.int (Int32.ofNat i)), .val (.int (Int32.ofNat j)), .val (.int (((1 : Int32) + (1 : Int32)) + (-1 : Int32))), .val (.int (((p3.toUInt32 >>> ((3 : Int32) &&& 31).toUInt32).toInt32) &&& (3 : Int32)))] [])) _
              refine XS.iload X66.here hx rfl (hb hby at_175) rfl ?_
              show Steps p.tables e below (T66.setTop (mkF m 177 #[.val (.int p0), .val (.int p1), .val (.int p2), .val (.int p3), .val (.int (Int32.ofNat sz)), .val (.ref b1), .val (.int (1 : Int32)), .val (.int (Int32.ofNat i)), .val (.int (Int32.ofNat j)), .val (.int (((1 : Int32) + (1 : Int32)) + (-1 : Int32))), .val (.int (((p3.toUInt32 >>> ((3 : Int32) &&& 31).toUInt32).toInt32) &&& (3 : Int32)))] [(.int (1 : Int32))])) _
              refine XS.ifNo X66.here hx rfl (hb hby at_177) rfl ((if0 _ _).trans (feq (by decide : ¬ ((1 : Int32) = (0 : Int32)))).1) ?_
              show Steps p.tables e below (T66.setTop (mkF m 180 #[.val (.int p0), .val (.int p1), .val (.int p2), .val (.int p3), .val (.int (Int32.ofNat sz)), .val (.ref b1), .val (.int (1 : Int32)), .val (.int (Int32.ofNat i)), .val (.int (Int32.ofNat j)), .val (.int (((1 : Int32) + (1 : Int32)) + (-1 : Int32))), .val (.int (((p3.toUInt32 >>> ((3 : Int32) &&& 31).toUInt32).toInt32) &&& (3 : Int32)))] [])) _
              refine XS.aload X66.here hx rfl (hb hby at_180) rfl rfl ?_
              show Steps p.tables e below (T66.setTop (mkF m 182 #[.val (.int p0), .val (.int p1), .val (.int p2), .val (.int p3), .val (.int (Int32.ofNat sz)), .val (.ref b1), .val (.int (1 : Int32)), .val (.int (Int32.ofNat i)), .val (.int (Int32.ofNat j)), .val (.int (((1 : Int32) + (1 : Int32)) + (-1 : Int32))), .val (.int (((p3.toUInt32 >>> ((3 : Int32) &&& 31).toUInt32).toInt32) &&& (3 : Int32)))] [(.ref b1)])) _
              refine st67.trans ?_
              show Steps p.tables e below (T67.setTop (mkF m 185 #[.val (.int p0), .val (.int p1), .val (.int p2), .val (.int p3), .val (.int (Int32.ofNat sz)), .val (.ref b1), .val (.int (1 : Int32)), .val (.int (Int32.ofNat i)), .val (.int (Int32.ofNat j)), .val (.int (((1 : Int32) + (1 : Int32)) + (-1 : Int32))), .val (.int (((p3.toUInt32 >>> ((3 : Int32) &&& 31).toUInt32).toInt32) &&& (3 : Int32)))] [(.int (0 : Int32))])) _
              refine XS.iload X67.here hx rfl (hb hby at_185) rfl ?_
              show Steps p.tables e below (T67.setTop (mkF m 187 #[.val (.int p0), .val (.int p1), .val (.int p2), .val (.int p3), .val (.int (Int32.ofNat sz)), .val (.ref b1), .val (.int (1 : Int32)), .val (.int (Int32.ofNat i)), .val (.int (Int32.ofNat j)), .val (.int (((1 : Int32) + (1 : Int32)) + (-1 : Int32))), .val (.int (((p3.toUInt32 >>> ((3 : Int32) &&& 31).toUInt32).toInt32) &&& (3 : Int32)))] [(.int (((1 : Int32) + (1 : Int32)) + (-1 : Int32))), (.int (0 : Int32))])) _
              refine XS.ifYes X67.here hx rfl (pc0 := 187) (pc' := 194) rfl (hb hby at_187) rfl ((if0 _ _).trans (feq (by decide)).2) (by decide) (by decide) ?_
              show Steps p.tables e below (T67.setTop (mkF m 194 #[.val (.int p0), .val (.int p1), .val (.int p2), .val (.int p3), .val (.int (Int32.ofNat sz)), .val (.ref b1), .val (.int (1 : Int32)), .val (.int (Int32.ofNat i)), .val (.int (Int32.ofNat j)), .val (.int (((1 : Int32) + (1 : Int32)) + (-1 : Int32))), .val (.int (((p3.toUInt32 >>> ((3 : Int32) &&& 31).toUInt32).toInt32) &&& (3 : Int32)))] [(.int (0 : Int32))])) _
              refine XS.iconst X67.here hx rfl (hb hby at_194) ?_
              show Steps p.tables e below (T67.setTop (mkF m 195 #[.val (.int p0), .val (.int p1), .val (.int p2), .val (.int p3), .val (.int (Int32.ofNat sz)), .val (.ref b1), .val (.int (1 : Int32)), .val (.int (Int32.ofNat i)), .val (.int (Int32.ofNat j)), .val (.int (((1 : Int32) + (1 : Int32)) + (-1 : Int32))), .val (.int (((p3.toUInt32 >>> ((3 : Int32) &&& 31).toUInt32).toInt32) &&& (3 : Int32)))] [(.int (0 : Int32)), (.int (0 : Int32))])) _
              refine XS.icmpNo X67.here hx rfl (hb hby at_195) rfl (teq (by decide : (0 : Int32) = (0 : Int32))).2 ?_
              show Steps p.tables e below (T67.setTop (mkF m 198 #[.val (.int p0), .val (.int p1), .val (.int p2), .val (.int p3), .val (.int (Int32.ofNat sz)), .val (.ref b1), .val (.int (1 : Int32)), .val (.int (Int32.ofNat i)), .val (.int (Int32.ofNat j)), .val (.int (((1 : Int32) + (1 : Int32)) + (-1 : Int32))), .val (.int (((p3.toUInt32 >>> ((3 : Int32) &&& 31).toUInt32).toInt32) &&& (3 : Int32)))] [])) _
              refine XS.iconst X67.here hx rfl (hb hby at_198) ?_
              show Steps p.tables e below (T67.setTop (mkF m 199 #[.val (.int p0), .val (.int p1), .val (.int p2), .val (.int p3), .val (.int (Int32.ofNat sz)), .val (.ref b1), .val (.int (1 : Int32)), .val (.int (Int32.ofNat i)), .val (.int (Int32.ofNat j)), .val (.int (((1 : Int32) + (1 : Int32)) + (-1 : Int32))), .val (.int (((p3.toUInt32 >>> ((3 : Int32) &&& 31).toUInt32).toInt32) &&& (3 : Int32)))] [(.int (1 : Int32))])) _
              refine XS.goto X67.here hx rfl (pc0 := 199) (pc' := 203) rfl (hb hby at_199) (by decide) (by decide) ?_
              show Steps p.tables e below (T67.setTop (mkF m 203 #[.val (.int p0), .val (.int p1), .val (.int p2), .val (.int p3), .val (.int (Int32.ofNat sz)), .val (.ref b1), .val (.int (1 : Int32)), .val (.int (Int32.ofNat i)), .val (.int (Int32.ofNat j)), .val (.int (((1 : Int32) + (1 : Int32)) + (-1 : Int32))), .val (.int (((p3.toUInt32 >>> ((3 : Int32) &&& 31).toUInt32).toInt32) &&& (3 : Int32)))] [(.int (1 : Int32))])) _
              refine XS.istore X67.here hx rfl (hb hby at_203) rfl (l' := #[.val (.int p0), .val (.int p1), .val (.int p2), .val (.int p3), .val (.int (Int32.ofNat sz)), .val (.ref b1), .val (.int (1 : Int32)), .val (.int (Int32.ofNat i)), .val (.int (Int32.ofNat j)), .val (.int (((1 : Int32) + (1 : Int32)) + (-1 : Int32))), .val (.int (((p3.toUInt32 >>> ((3 : Int32) &&& 31).toUInt32).toInt32) &&& (3 : Int32)))]) rfl ?_
              show Steps p.tables e below (T67.setTop (mkF m 205 #[.val (.int p0), .val (.int p1), .val (.int p2), .val (.int p3), .val (.int (Int32.ofNat sz)), .val (.ref b1), .val (.int (1 : Int32)), .val (.int (Int32.ofNat i)), .val (.int (Int32.ofNat j)), .val (.int (((1 : Int32) + (1 : Int32)) + (-1 : Int32))), .val (.int (((p3.toUInt32 >>> ((3 : Int32) &&& 31).toUInt32).toInt32) &&& (3 : Int32)))] [])) _
              refine XS.iload X67.here hx rfl (hb hby at_205) rfl ?_
              show Steps p.tables e below (T67.setTop (mkF m 207 #[.val (.int p0), .val (.int p1), .val (.int p2), .val (.int p3), .val (.int (Int32.ofNat sz)), .val (.ref b1), .val (.int (1 : Int32)), .val (.int (Int32.ofNat i)), .val (.int (Int32.ofNat j)), .val (.int (((1 : Int32) + (1 : Int32)) + (-1 : Int32))), .val (.int (((p3.toUInt32 >>> ((3 : Int32) &&& 31).toUInt32).toInt32) &&& (3 : Int32)))] [(.int (((p3.toUInt32 >>> ((3 : Int32) &&& 31).toUInt32).toInt32) &&& (3 : Int32)))])) _
              refine XS.iconst X67.here hx rfl (hb hby at_207) ?_
              exact kt
            by_cases hc69 : (((p3.toUInt32 >>> ((3 : Int32) &&& 31).toUInt32).toInt32) &&& (3 : Int32)) < (2 : Int32)
            · skip
              obtain ⟨fs, hr, hrun, hended, hW, hsame⟩ := X67.leave (v := some (.int (1 : Int32))) (fun h => by rw [Bd.returns] at h; cases h)
              refine ⟨_, _, pre68 _ ?_, hrun, hended, _, _, rfl, ?_, ⟨_, rfl⟩, hW, hsame.mono (by decide) (by decide)⟩
              · skip
                show Steps p.tables e below (T67.setTop (mkF m 208 #[.val (.int p0), .val (.int p1), .val (.int p2), .val (.int p3), .val (.int (Int32.ofNat sz)), .val (.ref b1), .val (.int (1 : Int32)), .val (.int (Int32.ofNat i)), .val (.int (Int32.ofNat j)), .val (.int (((1 : Int32) + (1 : Int32)) + (-1 : Int32))), .val (.int (((p3.toUInt32 >>> ((3 : Int32) &&& 31).toUInt32).toInt32) &&& (3 : Int32)))] [(.int (2 : Int32)), (.int (((p3.toUInt32 >>> ((3 : Int32) &&& 31).toUInt32).toInt32) &&& (3 : Int32)))])) _
                refine XS.icmpYes X67.here hx rfl (pc0 := 208) (pc' := 255) rfl (hb hby at_208) rfl (tlt hc69).1 (by decide) (by decide) ?_
                show Steps p.tables e below (T67.setTop (mkF m 255 #[.val (.int p0), .val (.int p1), .val (.int p2), .val (.int p3), .val (.int (Int32.ofNat sz)), .val (.ref b1), .val (.int (1 : Int32)), .val (.int (Int32.ofNat i)), .val (.int (Int32.ofNat j)), .val (.int (((1 : Int32) + (1 : Int32)) + (-1 : Int32))), .val (.int (((p3.toUInt32 >>> ((3 : Int32) &&& 31).toUInt32).toInt32) &&& (3 : Int32)))] [])) _
                refine XS.iload X67.here hx rfl (hb hby at_255) rfl ?_
                show Steps p.tables e below (T67.setTop (mkF m 257 #[.val (.int p0), .val (.int p1), .val (.int p2), .val (.int p3), .val (.int (Int32.ofNat sz)), .val (.ref b1), .val (.int (1 : Int32)), .val (.int (Int32.ofNat i)), .val (.int (Int32.ofNat j)), .val (.int (((1 : Int32) + (1 : Int32)) + (-1 : Int32))), .val (.int (((p3.toUInt32 >>> ((3 : Int32) &&& 31).toUInt32).toInt32) &&& (3 : Int32)))] [(.int (1 : Int32))])) _
                exact retN X67 hx (t := .boolean) Bd.returns (by simp) (hb hby at_257) hr
              · exact ⟨(by first | rfl | simp [hc5, hc10, hc34, hc47, hc61, hc69]), N67⟩
            · skip
              obtain ⟨cq70, kq70, q70a, q70b, q70c⟩ := isOf hZ e67 Ex66
              obtain ⟨_, _, ⟨T70, L70, k70, n70⟩, -, X70, ⟨Lc70, hQ70, l70, y70, z70⟩, st70⟩ := X67.virtualBack hx (y := (⟨"com/example/halfword/halfword/verify/RoundRobinSet", "take", "()I"⟩ : MethodName)) (z := (⟨"com/example/halfword/halfword/verify/RoundRobinSet", "take", "()I"⟩ : MethodName)) hown (mvT hZ (hw _ (List.mem_of_getElem? (i := 45) rfl))) (mvT hZ (hw _ (List.mem_of_getElem? (i := 46) rfl))) (notFace_of_selects (args := #[]) (mvT hZ (hw _ (List.mem_of_getElem? (i := 48) rfl)))) (mvT hZ (hw _ (List.mem_of_getElem? (i := 48) rfl))) (mvT hZ (hw _ (List.mem_of_getElem? (i := 47) rfl))) (by decide) (backOf (W := 0) (rTk l Z a0 hw [] b1 sz (x66 + 1) (Rm (Ad (Ad (fun _ => False) i) j) x66) T66.heap n0 (Rr66.le) Rr66 (Cnt.some (c := 0) (Cnt.rm (c := 1) (Cnt.two hc47') hMx66))) hZ (hw _ (List.mem_of_getElem? (i := 49) rfl)) (hw _ (List.mem_of_getElem? (i := 3) rfl)) (by decide) (by decide)) q70a q70c (g := (mkF m 218 #[.val (.int p0), .val (.int p1), .val (.int p2), .val (.int p3), .val (.int (Int32.ofNat sz)), .val (.ref b1), .val (.int (1 : Int32)), .val (.int (Int32.ofNat i)), .val (.int (Int32.ofNat j)), .val (.int (((1 : Int32) + (1 : Int32)) + (-1 : Int32))), .val (.int (((p3.toUInt32 >>> ((3 : Int32) &&& 31).toUInt32).toInt32) &&& (3 : Int32)))] [(.ref b1)])) rfl (by rw [hml]; rfl) (Steps.refl _) (argsL := []) (rest := []) (lenOf pd___I rfl) rfl (by show 2 * 0 + _ ≤ _; exact Nat.le_of_eq rfl) (hb hby at_218) (fun _ _ => ⟨rfl, e67, (by decide : 6 + 0 ≤ _), (by decide : 17415 + 0 ≤ _)⟩)
              dsimp only [Pt.U, Pt.locs, Pt.cells, Pt.slots] at X70 l70 y70 z70 st70 hQ70
              rw [l70, y70, z70] at X70
              obtain ⟨x70, zz70, rfl, N70q, hMx70, Rr70⟩ := hQ70
              have N70 := Fr.app N67 N70q
              have Ex70 := Rr70.ex
              obtain ⟨cq71, kq71, q71a, q71b, q71c⟩ := isOf hZ rfl Ex70
              obtain ⟨_, _, ⟨T71, L71, k71, n71⟩, -, X71, ⟨Lc71, hQ71, l71, y71, z71⟩, st71⟩ := X70.virtualBack hx (y := (⟨"com/example/halfword/halfword/verify/RoundRobinSet", "isEmpty", "()Z"⟩ : MethodName)) (z := (⟨"com/example/halfword/halfword/verify/RoundRobinSet", "isEmpty", "()Z"⟩ : MethodName)) hown (mvT hZ (hw _ (List.mem_of_getElem? (i := 26) rfl))) (mvT hZ (hw _ (List.mem_of_getElem? (i := 27) rfl))) (notFace_of_selects (args := #[]) (mvT hZ (hw _ (List.mem_of_getElem? (i := 29) rfl)))) (mvT hZ (hw _ (List.mem_of_getElem? (i := 29) rfl))) (mvT hZ (hw _ (List.mem_of_getElem? (i := 28) rfl))) (by decide) (backOf (W := 0) (rEm l Z a0 hw [] b1 sz (x70 + 1) (Rm (Rm (Ad (Ad (fun _ => False) i) j) x66) x70) (1 : Int32) T70.heap n0 (Rr70.le) Rr70 (Or.inl ⟨rfl, (Cnt.rm (c := 0) (Cnt.rm (c := 1) (Cnt.two hc47') hMx66) hMx70)⟩)) hZ (hw _ (List.mem_of_getElem? (i := 30) rfl)) (hw _ (List.mem_of_getElem? (i := 3) rfl)) (by decide) (by decide)) q71a q71c (g := (mkF m 232 #[.val (.int p0), .val (.int p1), .val (.int p2), .val (.int p3), .val (.int (Int32.ofNat sz)), .val (.ref b1), .val (.int (1 : Int32)), .val (.int (Int32.ofNat i)), .val (.int (Int32.ofNat j)), .val (.int ((((1 : Int32) + (1 : Int32)) + (-1 : Int32)) + (-1 : Int32))), .val (.int (((p3.toUInt32 >>> ((3 : Int32) &&& 31).toUInt32).toInt32) &&& (3 : Int32)))] [(.ref b1)])) rfl (by rw [hml]; rfl) (Steps.refl _) (argsL := []) (rest := []) (lenOf pd___Z rfl) rfl (by show 2 * 0 + _ ≤ _; exact Nat.le_of_eq rfl) (hb hby at_232) (fun _ _ => ⟨rfl, rfl, (by decide : 6 + 0 ≤ _), (by decide : 17415 + 0 ≤ _)⟩)
              dsimp only [Pt.U, Pt.locs, Pt.cells, Pt.slots] at X71 l71 y71 z71 st71 hQ71
              rw [l71, y71, z71] at X71
              obtain ⟨rfl, N71q, e71⟩ := hQ71
              have N71 := Fr.app N70 N71q
              obtain ⟨fs, hr, hrun, hended, hW, hsame⟩ := X71.leave (v := some (.int (1 : Int32))) (fun h => by rw [Bd.returns] at h; cases h)
              refine ⟨_, _, pre68 _ ?_, hrun, hended, _, _, rfl, ?_, ⟨_, rfl⟩, hW, hsame.mono (by decide) (by decide)⟩
              · skip
                show Steps p.tables e below (T67.setTop (mkF m 208 #[.val (.int p0), .val (.int p1), .val (.int p2), .val (.int p3), .val (.int (Int32.ofNat sz)), .val (.ref b1), .val (.int (1 : Int32)), .val (.int (Int32.ofNat i)), .val (.int (Int32.ofNat j)), .val (.int (((1 : Int32) + (1 : Int32)) + (-1 : Int32))), .val (.int (((p3.toUInt32 >>> ((3 : Int32) &&& 31).toUInt32).toInt32) &&& (3 : Int32)))] [(.int (2 : Int32)), (.int (((p3.toUInt32 >>> ((3 : Int32) &&& 31).toUInt32).toInt32) &&& (3 : Int32)))])) _
                refine XS.icmpNo X67.here hx rfl (hb hby at_208) rfl (flt hc69).1 ?_
                show Steps p.tables e below (T67.setTop (mkF m 211 #[.val (.int p0), .val (.int p1), .val (.int p2), .val (.int p3), .val (.int (Int32.ofNat sz)), .val (.ref b1), .val (.int (1 : Int32)), .val (.int (Int32.ofNat i)), .val (.int (Int32.ofNat j)), .val (.int (((1 : Int32) + (1 : Int32)) + (-1 : Int32))), .val (.int (((p3.toUInt32 >>> ((3 : Int32) &&& 31).toUInt32).toInt32) &&& (3 : Int32)))] [])) _
                refine XS.iload X67.here hx rfl (hb hby at_211) rfl ?_
                show Steps p.tables e below (T67.setTop (mkF m 213 #[.val (.int p0), .val (.int p1), .val (.int p2), .val (.int p3), .val (.int (Int32.ofNat sz)), .val (.ref b1), .val (.int (1 : Int32)), .val (.int (Int32.ofNat i)), .val (.int (Int32.ofNat j)), .val (.int (((1 : Int32) + (1 : Int32)) + (-1 : Int32))), .val (.int (((p3.toUInt32 >>> ((3 : Int32) &&& 31).toUInt32).toInt32) &&& (3 : Int32)))] [(.int (((1 : Int32) + (1 : Int32)) + (-1 : Int32)))])) _
                refine XS.ifNo X67.here hx rfl (hb hby at_213) rfl ((if0 _ _).trans (tlt (by decide)).2.2.2) ?_
                show Steps p.tables e below (T67.setTop (mkF m 216 #[.val (.int p0), .val (.int p1), .val (.int p2), .val (.int p3), .val (.int (Int32.ofNat sz)), .val (.ref b1), .val (.int (1 : Int32)), .val (.int (Int32.ofNat i)), .val (.int (Int32.ofNat j)), .val (.int (((1 : Int32) + (1 : Int32)) + (-1 : Int32))), .val (.int (((p3.toUInt32 >>> ((3 : Int32) &&& 31).toUInt32).toInt32) &&& (3 : Int32)))] [])) _
                refine XS.aload X67.here hx rfl (hb hby at_216) rfl rfl ?_
                show Steps p.tables e below (T67.setTop (mkF m 218 #[.val (.int p0), .val (.int p1), .val (.int p2), .val (.int p3), .val (.int (Int32.ofNat sz)), .val (.ref b1), .val (.int (1 : Int32)), .val (.int (Int32.ofNat i)), .val (.int (Int32.ofNat j)), .val (.int (((1 : Int32) + (1 : Int32)) + (-1 : Int32))), .val (.int (((p3.toUInt32 >>> ((3 : Int32) &&& 31).toUInt32).toInt32) &&& (3 : Int32)))] [(.ref b1)])) _
                refine st70.trans ?_
                show Steps p.tables e below (T70.setTop (mkF m 221 #[.val (.int p0), .val (.int p1), .val (.int p2), .val (.int p3), .val (.int (Int32.ofNat sz)), .val (.ref b1), .val (.int (1 : Int32)), .val (.int (Int32.ofNat i)), .val (.int (Int32.ofNat j)), .val (.int (((1 : Int32) + (1 : Int32)) + (-1 : Int32))), .val (.int (((p3.toUInt32 >>> ((3 : Int32) &&& 31).toUInt32).toInt32) &&& (3 : Int32)))] [(.int zz70)])) _
                refine XS.pop X70.here hx rfl (hb hby at_221) rfl rfl ?_
                show Steps p.tables e below (T70.setTop (mkF m 222 #[.val (.int p0), .val (.int p1), .val (.int p2), .val (.int p3), .val (.int (Int32.ofNat sz)), .val (.ref b1), .val (.int (1 : Int32)), .val (.int (Int32.ofNat i)), .val (.int (Int32.ofNat j)), .val (.int (((1 : Int32) + (1 : Int32)) + (-1 : Int32))), .val (.int (((p3.toUInt32 >>> ((3 : Int32) &&& 31).toUInt32).toInt32) &&& (3 : Int32)))] [])) _
                refine XS.iinc X70.here hx rfl (hb hby at_222) rfl (l' := #[.val (.int p0), .val (.int p1), .val (.int p2), .val (.int p3), .val (.int (Int32.ofNat sz)), .val (.ref b1), .val (.int (1 : Int32)), .val (.int (Int32.ofNat i)), .val (.int (Int32.ofNat j)), .val (.int ((((1 : Int32) + (1 : Int32)) + (-1 : Int32)) + (-1 : Int32))), .val (.int (((p3.toUInt32 >>> ((3 : Int32) &&& 31).toUInt32).toInt32) &&& (3 : Int32)))]) rfl ?_
                show Steps p.tables e below (T70.setTop (mkF m 225 #[.val (.int p0), .val (.int p1), .val (.int p2), .val (.int p3), .val (.int (Int32.ofNat sz)), .val (.ref b1), .val (.int (1 : Int32)), .val (.int (Int32.ofNat i)), .val (.int (Int32.ofNat j)), .val (.int ((((1 : Int32) + (1 : Int32)) + (-1 : Int32)) + (-1 : Int32))), .val (.int (((p3.toUInt32 >>> ((3 : Int32) &&& 31).toUInt32).toInt32) &&& (3 : Int32)))] [])) _
                refine XS.iload X70.here hx rfl (hb hby at_225) rfl ?_
                show Steps p.tables e below (T70.setTop (mkF m 227 #[.val (.int p0), .val (.int p1), .val (.int p2), .val (.int p3), .val (.int (Int32.ofNat sz)), .val (.ref b1), .val (.int (1 : Int32)), .val (.int (Int32.ofNat i)), .val (.int (Int32.ofNat j)), .val (.int ((((1 : Int32) + (1 : Int32)) + (-1 : Int32)) + (-1 : Int32))), .val (.int (((p3.toUInt32 >>> ((3 : Int32) &&& 31).toUInt32).toInt32) &&& (3 : Int32)))] [(.int (1 : Int32))])) _
                refine XS.ifNo X70.here hx rfl (hb hby at_227) rfl ((if0 _ _).trans (feq (by decide : ¬ ((1 : Int32) = (0 : Int32)))).1) ?_
                show Steps p.tables e below (T70.setTop (mkF m 230 #[.val (.int p0), .val (.int p1), .val (.int p2), .val (.int p3), .val (.int (Int32.ofNat sz)), .val (.ref b1), .val (.int (1 : Int32)), .val (.int (Int32.ofNat i)), .val (.int (Int32.ofNat j)), .val (.int ((((1 : Int32) + (1 : Int32)) + (-1 : Int32)) + (-1 : Int32))), .val (.int (((p3.toUInt32 >>> ((3 : Int32) &&& 31).toUInt32).toInt32) &&& (3 : Int32)))] [])) _
                refine XS.aload X70.here hx rfl (hb hby at_230) rfl rfl ?_
                show Steps p.tables e below (T70.setTop (mkF m 232 #[.val (.int p0), .val (.int p1), .val (.int p2), .val (.int p3), .val (.int (Int32.ofNat sz)), .val (.ref b1), .val (.int (1 : Int32)), .val (.int (Int32.ofNat i)), .val (.int (Int32.ofNat j)), .val (.int ((((1 : Int32) + (1 : Int32)) + (-1 : Int32)) + (-1 : Int32))), .val (.int (((p3.toUInt32 >>> ((3 : Int32) &&& 31).toUInt32).toInt32) &&& (3 : Int32)))] [(.ref b1)])) _
                refine st71.trans ?_
                show Steps p.tables e below (T71.setTop (mkF m 235 #[.val (.int p0), .val (.int p1), .val (.int p2), .val (.int p3), .val (.int (Int32.ofNat sz)), .val (.ref b1), .val (.int (1 : Int32)), .val (.int (Int32.ofNat i)), .val (.int (Int32.ofNat j)), .val (.int ((((1 : Int32) + (1 : Int32)) + (-1 : Int32)) + (-1 : Int32))), .val (.int (((p3.toUInt32 >>> ((3 : Int32) &&& 31).toUInt32).toInt32) &&& (3 : Int32)))] [(.int (1 : Int32))])) _
                refine XS.iload X71.here hx rfl (hb hby at_235) rfl ?_
                show Steps p.tables e below (T71.setTop (mkF m 237 #[.val (.int p0), .val (.int p1), .val (.int p2), .val (.int p3), .val (.int (Int32.ofNat sz)), .val (.ref b1), .val (.int (1 : Int32)), .val (.int (Int32.ofNat i)), .val (.int (Int32.ofNat j)), .val (.int ((((1 : Int32) + (1 : Int32)) + (-1 : Int32)) + (-1 : Int32))), .val (.int (((p3.toUInt32 >>> ((3 : Int32) &&& 31).toUInt32).toInt32) &&& (3 : Int32)))] [(.int ((((1 : Int32) + (1 : Int32)) + (-1 : Int32)) + (-1 : Int32))), (.int (1 : Int32))])) _
                refine XS.ifNo X71.here hx rfl (hb hby at_237) rfl ((if0 _ _).trans (teq (by decide)).2) ?_
                show Steps p.tables e below (T71.setTop (mkF m 240 #[.val (.int p0), .val (.int p1), .val (.int p2), .val (.int p3), .val (.int (Int32.ofNat sz)), .val (.ref b1), .val (.int (1 : Int32)), .val (.int (Int32.ofNat i)), .val (.int (Int32.ofNat j)), .val (.int ((((1 : Int32) + (1 : Int32)) + (-1 : Int32)) + (-1 : Int32))), .val (.int (((p3.toUInt32 >>> ((3 : Int32) &&& 31).toUInt32).toInt32) &&& (3 : Int32)))] [(.int (1 : Int32))])) _
                refine XS.iconst X71.here hx rfl (hb hby at_240) ?_
                show Steps p.tables e below (T71.setTop (mkF m 241 #[.val (.int p0), .val (.int p1), .val (.int p2), .val (.int p3), .val (.int (Int32.ofNat sz)), .val (.ref b1), .val (.int (1 : Int32)), .val (.int (Int32.ofNat i)), .val (.int (Int32.ofNat j)), .val (.int ((((1 : Int32) + (1 : Int32)) + (-1 : Int32)) + (-1 : Int32))), .val (.int (((p3.toUInt32 >>> ((3 : Int32) &&& 31).toUInt32).toInt32) &&& (3 : Int32)))] [(.int (1 : Int32)), (.int (1 : Int32))])) _
                refine XS.goto X71.here hx rfl (pc0 := 241) (pc' := 245) rfl (hb hby at_241) (by decide) (by decide) ?_
                show Steps p.tables e below (T71.setTop (mkF m 245 #[.val (.int p0), .val (.int p1), .val (.int p2), .val (.int p3), .val (.int (Int32.ofNat sz)), .val (.ref b1), .val (.int (1 : Int32)), .val (.int (Int32.ofNat i)), .val (.int (Int32.ofNat j)), .val (.int ((((1 : Int32) + (1 : Int32)) + (-1 : Int32)) + (-1 : Int32))), .val (.int (((p3.toUInt32 >>> ((3 : Int32) &&& 31).toUInt32).toInt32) &&& (3 : Int32)))] [(.int (1 : Int32)), (.int (1 : Int32))])) _
                refine XS.icmpNo X71.here hx rfl (hb hby at_245) rfl (teq (by decide : (1 : Int32) = (1 : Int32))).2 ?_
                show Steps p.tables e below (T71.setTop (mkF m 248 #[.val (.int p0), .val (.int p1), .val (.int p2), .val (.int p3), .val (.int (Int32.ofNat sz)), .val (.ref b1), .val (.int (1 : Int32)), .val (.int (Int32.ofNat i)), .val (.int (Int32.ofNat j)), .val (.int ((((1 : Int32) + (1 : Int32)) + (-1 : Int32)) + (-1 : Int32))), .val (.int (((p3.toUInt32 >>> ((3 : Int32) &&& 31).toUInt32).toInt32) &&& (3 : Int32)))] [])) _
                refine XS.iconst X71.here hx rfl (hb hby at_248) ?_
                show Steps p.tables e below (T71.setTop (mkF m 249 #[.val (.int p0), .val (.int p1), .val (.int p2), .val (.int p3), .val (.int (Int32.ofNat sz)), .val (.ref b1), .val (.int (1 : Int32)), .val (.int (Int32.ofNat i)), .val (.int (Int32.ofNat j)), .val (.int ((((1 : Int32) + (1 : Int32)) + (-1 : Int32)) + (-1 : Int32))), .val (.int (((p3.toUInt32 >>> ((3 : Int32) &&& 31).toUInt32).toInt32) &&& (3 : Int32)))] [(.int (1 : Int32))])) _
                refine XS.goto X71.here hx rfl (pc0 := 249) (pc' := 253) rfl (hb hby at_249) (by decide) (by decide) ?_
                show Steps p.tables e below (T71.setTop (mkF m 253 #[.val (.int p0), .val (.int p1), .val (.int p2), .val (.int p3), .val (.int (Int32.ofNat sz)), .val (.ref b1), .val (.int (1 : Int32)), .val (.int (Int32.ofNat i)), .val (.int (Int32.ofNat j)), .val (.int ((((1 : Int32) + (1 : Int32)) + (-1 : Int32)) + (-1 : Int32))), .val (.int (((p3.toUInt32 >>> ((3 : Int32) &&& 31).toUInt32).toInt32) &&& (3 : Int32)))] [(.int (1 : Int32))])) _
                refine XS.istore X71.here hx rfl (hb hby at_253) rfl (l' := #[.val (.int p0), .val (.int p1), .val (.int p2), .val (.int p3), .val (.int (Int32.ofNat sz)), .val (.ref b1), .val (.int (1 : Int32)), .val (.int (Int32.ofNat i)), .val (.int (Int32.ofNat j)), .val (.int ((((1 : Int32) + (1 : Int32)) + (-1 : Int32)) + (-1 : Int32))), .val (.int (((p3.toUInt32 >>> ((3 : Int32) &&& 31).toUInt32).toInt32) &&& (3 : Int32)))]) rfl ?_
                show Steps p.tables e below (T71.setTop (mkF m 255 #[.val (.int p0), .val (.int p1), .val (.int p2), .val (.int p3), .val (.int (Int32.ofNat sz)), .val (.ref b1), .val (.int (1 : Int32)), .val (.int (Int32.ofNat i)), .val (.int (Int32.ofNat j)), .val (.int ((((1 : Int32) + (1 : Int32)) + (-1 : Int32)) + (-1 : Int32))), .val (.int (((p3.toUInt32 >>> ((3 : Int32) &&& 31).toUInt32).toInt32) &&& (3 : Int32)))] [])) _
                refine XS.iload X71.here hx rfl (hb hby at_255) rfl ?_
                show Steps p.tables e below (T71.setTop (mkF m 257 #[.val (.int p0), .val (.int p1), .val (.int p2), .val (.int p3), .val (.int (Int32.ofNat sz)), .val (.ref b1), .val (.int (1 : Int32)), .val (.int (Int32.ofNat i)), .val (.int (Int32.ofNat j)), .val (.int ((((1 : Int32) + (1 : Int32)) + (-1 : Int32)) + (-1 : Int32))), .val (.int (((p3.toUInt32 >>> ((3 : Int32) &&& 31).toUInt32).toInt32) &&& (3 : Int32)))] [(.int (1 : Int32))])) _
                exact retN X71 hx (t := .boolean) Bd.returns (by simp) (hb hby at_257) hr
              · exact ⟨(by first | rfl | simp [hc5, hc10, hc34, hc47, hc61, hc69]), N71⟩
set_option maxRecDepth 65536 in
set_option maxHeartbeats 40000000 in
theorem comes_1 {Post : Tables → Env → Array Value → State → Outcome → State → Prop} (hpost : ∀ tb e args s v u, (limb_1_1.after args s (.returned v) u = true ∧ limb_1_2.after args s (.returned v) u = true ∧ True) → FrameEnd s (.returned v) u (Jvm.fieldLocs frame_1_writes args s ++ Jvm.arrayLocs frame_1_arrays args s ++ Jvm.staticLocs frame_1_statics s) 24 33408 → Post tb e args s (.returned v) u) :
    ArmFor flags0 classFile x code maxLocals ret World_1 tables_1 room_1 Calls_1 rest_1 Pre_1 Post := by
  intro l hfl _ _ p e ha hcas hclk s m args below hf hA hF happ hP
  obtain ⟨hcalls, hrest, hpre⟩ := hP
  obtain ⟨-, -, -, hnamed, -, -, -, hat⟩ := (Spec.applies_iff hf).mp happ
  obtain ⟨hg, hn⟩ := and_e (Cond.before_iff.mp (show (Jvm.Cond.and given_1 narrow_1).before args s = true from hpre))
  obtain ⟨g0, hg⟩ := and_e hg
  obtain ⟨g1, hg⟩ := and_e hg
  obtain ⟨g2, hg⟩ := and_e hg
  obtain ⟨g3, hg⟩ := and_e hg
  have g4 := hg
  obtain ⟨w0, w1, w2, w3, rfl⟩ : ∃ w0 w1 w2 w3 : Value, args = #[w0, w1, w2, w3] := by
    have hs : args.size = 4 := by simpa [Cond.value, given_1] using g0
    obtain ⟨L⟩ := args
    match L, hs with
    | [w0, w1, w2, w3], _ => exact ⟨w0, w1, w2, w3, rfl⟩
  have hw := fun d (hd : d ∈ tables_1) => atoms_spec (ws := Jvm.Cond.code x code maxLocals ret :: tables_1) hat d (List.mem_cons_of_mem _ hd)
  have hfit : Fit s := fun {y c} hc i hi => by
    obtain ⟨ha, rfl⟩ := Array.getElem?_eq_some_iff.mp hc
    have q := List.all_eq_true.mp ((Array.all_eq_true_iff_forall_mem.mp hF) _ (Array.getElem_mem ha)) i (List.mem_range.mpr hi)
    simpa [Array.getElem?_eq_getElem hi] using q
  obtain ⟨i0, ei0⟩ := is_v g1
  obtain rfl : w0 = (.int i0) := Option.some.inj ei0
  obtain ⟨i1, ei1⟩ := is_v g2
  obtain rfl : w1 = (.int i1) := Option.some.inj ei1
  obtain ⟨i2, ei2⟩ := is_v g3
  obtain rfl : w2 = (.int i2) := Option.some.inj ei2
  obtain ⟨i3, ei3⟩ := is_v g4
  obtain rfl : w3 = (.int i3) := Option.some.inj ei3
  obtain ⟨sz, hsz, hp⟩ := own_size i0
  obtain ⟨n, o, h1, h2, h3, _, L, rfl, ⟨rfl, N⟩, hq⟩ := rm0 l s _ hw tables_1 i0 i1 i2 i3 sz hsz hp s.heap s.heap.size (Nat.le_refl _) p e ha hcas hclk s m _ below hf ((Spec.applies_iff_loose hf).mp happ).1 ⟨rfl, State.Warmed39.refl s, rfl⟩ trivial
  refine ⟨n, _, h1, h2, h3, hpost _ _ _ _ _ _ ⟨Cond.after_iff.mpr rfl, Cond.after_iff.mpr (eq_i res_at (Term.int_eval (1)) rfl), trivial⟩ ⟨hq.1, hq.2.1, (hq.2.2.sift fun y hy => Or.inr (N y hy)).mono (by decide) (by decide)⟩⟩
theorem main_1_1 : Claimed_1_1 := comes_1 fun _ _ _ _ _ _ h hF => ⟨h.1, hF⟩
theorem main_1_2 : Claimed_1_2 := comes_1 fun _ _ _ _ _ _ h hF => ⟨h.2.1, hF⟩
end Jvm.Pilot.@@N@@
namespace Jvm.Pilot.@@N@@
open Jvm Jvm.ClassFile Sem Op Lib Jvm.Free Jvm.Stand Jvm.Pilot.@@N@@.Jvm.D
/-! MADE BY PROGRAM (witnessworld.py) out of the Statement's table words and the real class files: 20 classes; the members and pool entries that the words name. The judged class is class 1, her method 1. -/
namespace start1
open Jvm.ClassFile
def u (s : String) : CpInfo := .utf8 (stringToUtf16 s)
/-- a pool by its gaps: so many unusable entries, then the entry; so many at the end -/
def gap : Nat → List CpInfo → List CpInfo
  | 0, r => r
  | n + 1, r => .unusable :: gap n r
def poolList (es : List (Nat × CpInfo)) (last : Nat) : List CpInfo := es.foldr (fun e r => gap e.1 (e.2 :: r)) (gap last [])
def pool (es : List (Nat × CpInfo)) (last : Nat) : Array CpInfo := ⟨poolList es last⟩
def fileOf (pool : Array CpInfo) (this : Nat) (attrs : Array Attribute := #[]) (ms : Array MethodInfo := #[]) (fl : Nat := 33) (sup : Nat := 0) (ifs : Array Nat := #[]) (fds : Array FieldInfo := #[]) : ClassFile where
  minorVersion := 0
  majorVersion := 65
  constantPool := pool
  accessFlags := fl
  thisClass := this
  superClass := sup
  interfaces := ifs
  fields := fds
  methods := ms
  attributes := attrs
def plain (name : String) (sup : Option ClassId) : Class where
  name := name
  kind := .ordinary
  loader := none
  accessFlags := 33
  super := sup
  interfaces := #[]
  cf := none
  fields := #[]
  methods := #[]
  instanceTypes := #[]
  staticTypes := #[]
  resolved := #[]
  callSites := []
  init := .initialized
  statics := none
  mirror := none

def pool0 : Array CpInfo := pool [(5, u "<init>"), (0, u "()V"), (1, .class_ 10), (1, u "java/lang/Object")] 113

def k0c0 : Code := { maxStack := 0, maxLocals := 1, code := object_method_1_code, exceptionTable := #[], attributes := #[] }
def k0m0 : Method := { name := "<init>", desc := "()V", sig := { parameters := [], returnType := none }, accessFlags := 1, code := some k0c0 }
/-- java/lang/Object -/
def k0 : Class := { plain "java/lang/Object" none with
  accessFlags := 33
  interfaces := #[]
  cf := some (fileOf pool0 8 #[] #[{ accessFlags := 1, nameIndex := 5, descriptorIndex := 6, attributes := #[] }] 33 0 #[] #[])
  fields := #[]
  methods := #[k0m0]
  instanceTypes := #[]
  staticTypes := #[]
  resolved := Array.replicate 124 none
  statics := none }

def pool1 : Array CpInfo := pool [(2, .class_ 4), (1, u "java/lang/Object"), (0, u "<init>"), (0, u "()V"), (0, .integer 1048575), (0, .class_ 9), (0, u "com/example/halfword/halfword/verify/RoundRobinSet"), (0, .methodref 8 11), (0, .nameAndType 5 12), (0, u "(I)V"), (0, .methodref 8 14), (0, .nameAndType 15 16), (0, u "isEmpty"), (0, u "()Z"), (0, .integer 2147483647), (0, .methodref 8 19), (0, .nameAndType 20 12), (0, u "add"), (0, .methodref 8 22), (0, .nameAndType 23 24), (0, u "take"), (0, u "()I"), (0, .class_ 26), (0, u "com/example/halfword/halfword/verify/RoundRobinSetIsEmptyPinLaw"), (2, u "law"), (0, u "(IIII)Z")] 3

def k1m0 : Method := { name := "<init>", desc := "()V", sig := { parameters := [], returnType := none }, accessFlags := 1, code := none }
def k1c1 : Code := { maxStack := 3, maxLocals := 11, code := code, exceptionTable := #[], attributes := #[] }
def k1m1 : Method := { name := "law", desc := "(IIII)Z", sig := { parameters := [.int, .int, .int, .int], returnType := some .boolean }, accessFlags := 9, code := some k1c1 }
/-- com/example/halfword/halfword/verify/RoundRobinSetIsEmptyPinLaw -/
def k1 : Class := { plain "com/example/halfword/halfword/verify/RoundRobinSetIsEmptyPinLaw" (some 0) with
  accessFlags := 49
  interfaces := #[]
  cf := some (fileOf pool1 25 #[] #[{ accessFlags := 1, nameIndex := 5, descriptorIndex := 6, attributes := #[] }, { accessFlags := 9, nameIndex := 29, descriptorIndex := 30, attributes := #[] }] 49 2 #[] #[])
  fields := #[]
  methods := #[k1m0, k1m1]
  instanceTypes := #[]
  staticTypes := #[]
  resolved := Array.replicate 34 none
  statics := none }

def pool2 : Array CpInfo := pool [(1, .methodref 2 3), (0, .class_ 4), (0, .nameAndType 5 6), (0, u "java/lang/Object"), (0, u "<init>"), (0, u "()V"), (9, .fieldref 17 18), (0, .class_ 19), (0, .nameAndType 20 21), (0, u "com/example/halfword/halfword/verify/RoundRobinSet"), (0, u "size"), (0, u "I"), (0, .class_ 23), (0, u "java/lang/Long"), (0, .long 64), (1, .methodref 17 27), (0, .nameAndType 28 29), (0, u "words"), (0, u "(J)J"), (0, .class_ 31), (0, u "[J"), (0, .fieldref 17 33), (0, .nameAndType 34 35), (0, u "levels"), (0, u "[[J"), (0, .methodref 37 38), (0, .class_ 39), (0, .nameAndType 40 41), (0, u "java/lang/Math"), (0, u "max"), (0, u "(JJ)J"), (0, .methodref 43 44), (0, .class_ 45), (0, .nameAndType 46 47), (0, u "java/util/Objects"), (0, u "checkIndex"), (0, u "(II)I"), (0, .fieldref 17 49), (0, .nameAndType 50 51), (0, u "after"), (0, u "J"), (0, .methodref 17 53), (0, .nameAndType 54 29), (0, u "next"), (5, .methodref 17 61), (0, .nameAndType 62 63), (0, u "remove"), (0, u "(J)V"), (0, .long 18446744073709551615), (1, .methodref 22 67), (0, .nameAndType 68 69), (0, u "numberOfTrailingZeros"), (0, u "(J)I"), (0, u "SHIFT"), (2, u "(I)V"), (3, u "isEmpty"), (0, u "()Z"), (0, u "add"), (1, u "take"), (0, u "()I")] 17

def k2c0 : Code := { maxStack := 6, maxLocals := 6, code := prog_103_method_1_code, exceptionTable := #[], attributes := #[] }
def k2m0 : Method := { name := "<init>", desc := "(I)V", sig := { parameters := [.int], returnType := none }, accessFlags := 0, code := some k2c0 }
def k2c1 : Code := { maxStack := 4, maxLocals := 2, code := prog_103_method_2_code, exceptionTable := #[], attributes := #[] }
def k2m1 : Method := { name := "words", desc := "(J)J", sig := { parameters := [.long], returnType := some .long }, accessFlags := 10, code := some k2c1 }
def k2c2 : Code := { maxStack := 4, maxLocals := 1, code := prog_103_method_3_code, exceptionTable := #[], attributes := #[] }
def k2m2 : Method := { name := "isEmpty", desc := "()Z", sig := { parameters := [], returnType := some .boolean }, accessFlags := 0, code := some k2c2 }
def k2c3 : Code := { maxStack := 8, maxLocals := 10, code := prog_103_method_4_code, exceptionTable := #[], attributes := #[] }
def k2m3 : Method := { name := "add", desc := "(I)V", sig := { parameters := [.int], returnType := none }, accessFlags := 0, code := some k2c3 }
def k2c4 : Code := { maxStack := 5, maxLocals := 3, code := prog_103_method_5_code, exceptionTable := #[], attributes := #[] }
def k2m4 : Method := { name := "take", desc := "()I", sig := { parameters := [], returnType := some .int }, accessFlags := 0, code := some k2c4 }
def k2c5 : Code := { maxStack := 6, maxLocals := 10, code := prog_103_method_6_code, exceptionTable := #[], attributes := #[] }
def k2m5 : Method := { name := "next", desc := "(J)J", sig := { parameters := [.long], returnType := some .long }, accessFlags := 2, code := some k2c5 }
def k2c6 : Code := { maxStack := 8, maxLocals := 10, code := prog_103_method_7_code, exceptionTable := #[], attributes := #[] }
def k2m6 : Method := { name := "remove", desc := "(J)V", sig := { parameters := [.long], returnType := none }, accessFlags := 2, code := some k2c6 }
/-- com/example/halfword/halfword/verify/RoundRobinSet -/
def k2 : Class := { plain "com/example/halfword/halfword/verify/RoundRobinSet" (some 0) with
  accessFlags := 48
  interfaces := #[]
  cf := some (fileOf pool2 17 #[] #[{ accessFlags := 0, nameIndex := 5, descriptorIndex := 73, attributes := #[] }, { accessFlags := 10, nameIndex := 28, descriptorIndex := 29, attributes := #[] }, { accessFlags := 0, nameIndex := 77, descriptorIndex := 78, attributes := #[] }, { accessFlags := 0, nameIndex := 79, descriptorIndex := 73, attributes := #[] }, { accessFlags := 0, nameIndex := 81, descriptorIndex := 82, attributes := #[] }, { accessFlags := 2, nameIndex := 54, descriptorIndex := 29, attributes := #[] }, { accessFlags := 2, nameIndex := 62, descriptorIndex := 63, attributes := #[] }] 48 2 #[] #[{ accessFlags := 26, nameIndex := 70, descriptorIndex := 21, attributes := #[] }, { accessFlags := 18, nameIndex := 20, descriptorIndex := 21, attributes := #[] }, { accessFlags := 18, nameIndex := 34, descriptorIndex := 35, attributes := #[] }, { accessFlags := 2, nameIndex := 50, descriptorIndex := 51, attributes := #[] }])
  fields := #[{ name := "SHIFT", type := .int, accessFlags := 26, slot := 0, constantValue := 0 }, { name := "size", type := .int, accessFlags := 18, slot := 0, constantValue := 0 }, { name := "levels", type := (.array (.array .long)), accessFlags := 18, slot := 1, constantValue := 0 }, { name := "after", type := .long, accessFlags := 2, slot := 2, constantValue := 0 }]
  methods := #[k2m0, k2m1, k2m2, k2m3, k2m4, k2m5, k2m6]
  instanceTypes := #[.int, (.array (.array .long)), .long]
  staticTypes := #[.int]
  resolved := Array.replicate 100 none
  statics := none }

def pool3 : Array CpInfo := pool [(1, .class_ 2), (0, u "java/lang/Math"), (1, .class_ 6), (1, u "java/lang/Object"), (0, u "<init>"), (0, u "()V"), (89, .class_ 100), (1, u "java/lang/Math$RandomNumberGeneratorHolder"), (20, u "(JJ)J"), (50, u "negativeZeroFloatBits"), (0, u "J"), (2, u "negativeZeroDoubleBits"), (21, u "max"), (46, u "$assertionsDisabled"), (0, u "Z"), (91, u "twoToTheDoubleScaleDown"), (0, u "D"), (4, u "twoToTheDoubleScaleUp"), (9, u "E"), (3, u "PI"), (2, u "TAU"), (2, u "DEGREES_TO_RADIANS"), (0, u "RADIANS_TO_DEGREES")] 94

def k3m0 : Method := { name := "<init>", desc := "()V", sig := { parameters := [], returnType := none }, accessFlags := 2, code := none }
def k3c1 : Code := { maxStack := 4, maxLocals := 4, code := jdk_29_method_66_code, exceptionTable := #[], attributes := #[] }
def k3m1 : Method := { name := "max", desc := "(JJ)J", sig := { parameters := [.long, .long], returnType := some .long }, accessFlags := 9, code := some k3c1 }
/-- java/lang/Math -/
def k3 : Class := { plain "java/lang/Math" (some 0) with
  accessFlags := 49
  interfaces := #[]
  cf := some (fileOf pool3 1 #[.nestMembers #[98]] #[{ accessFlags := 2, nameIndex := 7, descriptorIndex := 8, attributes := #[] }, { accessFlags := 9, nameIndex := 198, descriptorIndex := 121, attributes := #[] }] 49 4 #[] #[{ accessFlags := 25, nameIndex := 354, descriptorIndex := 339, attributes := #[] }, { accessFlags := 25, nameIndex := 358, descriptorIndex := 339, attributes := #[] }, { accessFlags := 25, nameIndex := 361, descriptorIndex := 339, attributes := #[] }, { accessFlags := 26, nameIndex := 364, descriptorIndex := 339, attributes := #[] }, { accessFlags := 26, nameIndex := 365, descriptorIndex := 339, attributes := #[] }, { accessFlags := 26, nameIndex := 172, descriptorIndex := 173, attributes := #[] }, { accessFlags := 26, nameIndex := 176, descriptorIndex := 173, attributes := #[] }, { accessFlags := 8, nameIndex := 344, descriptorIndex := 339, attributes := #[] }, { accessFlags := 8, nameIndex := 338, descriptorIndex := 339, attributes := #[] }, { accessFlags := 4120, nameIndex := 245, descriptorIndex := 246, attributes := #[] }])
  fields := #[{ name := "E", type := .double, accessFlags := 25, slot := 0, constantValue := 0 }, { name := "PI", type := .double, accessFlags := 25, slot := 1, constantValue := 0 }, { name := "TAU", type := .double, accessFlags := 25, slot := 2, constantValue := 0 }, { name := "DEGREES_TO_RADIANS", type := .double, accessFlags := 26, slot := 3, constantValue := 0 }, { name := "RADIANS_TO_DEGREES", type := .double, accessFlags := 26, slot := 4, constantValue := 0 }, { name := "negativeZeroFloatBits", type := .long, accessFlags := 26, slot := 5, constantValue := 0 }, { name := "negativeZeroDoubleBits", type := .long, accessFlags := 26, slot := 6, constantValue := 0 }, { name := "twoToTheDoubleScaleUp", type := .double, accessFlags := 8, slot := 7, constantValue := 0 }, { name := "twoToTheDoubleScaleDown", type := .double, accessFlags := 8, slot := 8, constantValue := 0 }, { name := "$assertionsDisabled", type := .boolean, accessFlags := 4120, slot := 9, constantValue := 0 }]
  methods := #[k3m0, k3m1]
  instanceTypes := #[]
  staticTypes := #[.double, .double, .double, .double, .double, .long, .long, .double, .double, .boolean]
  resolved := Array.replicate 460 none
  statics := none }

def pool4 : Array CpInfo := pool [(2, .class_ 4), (1, u "java/lang/Object"), (0, u "<init>"), (0, u "()V"), (35, .class_ 44), (1, u "java/util/Objects"), (60, .methodref 106 107), (0, .class_ 108), (0, .nameAndType 109 110), (0, u "jdk/internal/util/Preconditions"), (0, u "checkIndex"), (0, u "(IILjava/util/function/BiFunction;)I"), (60, u "(II)I")] 12

def k4m0 : Method := { name := "<init>", desc := "()V", sig := { parameters := [], returnType := none }, accessFlags := 2, code := none }
def k4c1 : Code := { maxStack := 3, maxLocals := 2, code := jdk_31_method_17_code, exceptionTable := #[], attributes := #[] }
def k4m1 : Method := { name := "checkIndex", desc := "(II)I", sig := { parameters := [.int, .int], returnType := some .int }, accessFlags := 9, code := some k4c1 }
/-- java/util/Objects -/
def k4 : Class := { plain "java/util/Objects" (some 0) with
  accessFlags := 49
  interfaces := #[]
  cf := some (fileOf pool4 42 #[] #[{ accessFlags := 2, nameIndex := 5, descriptorIndex := 6, attributes := #[] }, { accessFlags := 9, nameIndex := 109, descriptorIndex := 171, attributes := #[] }] 49 2 #[] #[])
  fields := #[]
  methods := #[k4m0, k4m1]
  instanceTypes := #[]
  staticTypes := #[]
  resolved := Array.replicate 184 none
  statics := none }

def pool5 : Array CpInfo := pool [(2, .class_ 4), (1, u "java/lang/Object"), (0, u "<init>"), (0, u "()V"), (17, .class_ 26), (1, u "jdk/internal/util/Preconditions"), (6, u "checkIndex"), (21, .class_ 56), (0, u "jdk/internal/util/Preconditions$4"), (57, .class_ 115), (0, u "jdk/internal/util/Preconditions$1"), (7, u "SIOOBE_FORMATTER"), (0, u "Ljava/util/function/BiFunction;"), (0, .class_ 126), (0, u "jdk/internal/util/Preconditions$2"), (3, u "AIOOBE_FORMATTER"), (0, .class_ 132), (0, u "jdk/internal/util/Preconditions$3"), (3, u "IOOBE_FORMATTER"), (41, u "(IILjava/util/function/BiFunction;)I")] 15

def k5m0 : Method := { name := "<init>", desc := "()V", sig := { parameters := [], returnType := none }, accessFlags := 1, code := none }
def k5c1 : Code := { maxStack := 3, maxLocals := 3, code := jdk_41_method_11_code, exceptionTable := #[], attributes := #[] }
def k5m1 : Method := { name := "checkIndex", desc := "(IILjava/util/function/BiFunction;)I", sig := { parameters := [.int, .int, (.object "java/util/function/BiFunction")], returnType := some .int }, accessFlags := 9, code := some k5c1 }
/-- jdk/internal/util/Preconditions -/
def k5 : Class := { plain "jdk/internal/util/Preconditions" (some 0) with
  accessFlags := 33
  interfaces := #[]
  cf := some (fileOf pool5 24 #[.nestMembers #[55, 131, 125, 114]] #[{ accessFlags := 1, nameIndex := 5, descriptorIndex := 6, attributes := #[] }, { accessFlags := 9, nameIndex := 33, descriptorIndex := 178, attributes := #[] }] 33 2 #[] #[{ accessFlags := 25, nameIndex := 123, descriptorIndex := 124, attributes := #[] }, { accessFlags := 25, nameIndex := 130, descriptorIndex := 124, attributes := #[] }, { accessFlags := 25, nameIndex := 136, descriptorIndex := 124, attributes := #[] }])
  fields := #[{ name := "SIOOBE_FORMATTER", type := (.object "java/util/function/BiFunction"), accessFlags := 25, slot := 0, constantValue := 0 }, { name := "AIOOBE_FORMATTER", type := (.object "java/util/function/BiFunction"), accessFlags := 25, slot := 1, constantValue := 0 }, { name := "IOOBE_FORMATTER", type := (.object "java/util/function/BiFunction"), accessFlags := 25, slot := 2, constantValue := 0 }]
  methods := #[k5m0, k5m1]
  instanceTypes := #[]
  staticTypes := #[(.object "java/util/function/BiFunction"), (.object "java/util/function/BiFunction"), (.object "java/util/function/BiFunction")]
  resolved := Array.replicate 194 none
  statics := none }

def pool6 : Array CpInfo := pool [(1, .class_ 2), (0, u "java/io/Serializable"), (0, .class_ 4), (0, u "java/lang/Object")] 2

/-- java/io/Serializable -/
def k6 : Class := { plain "java/io/Serializable" (some 0) with
  accessFlags := 1537
  interfaces := #[]
  cf := some (fileOf pool6 1 #[] #[] 1537 3 #[] #[])
  fields := #[]
  methods := #[]
  instanceTypes := #[]
  staticTypes := #[]
  resolved := Array.replicate 7 none
  statics := none }

def pool7 : Array CpInfo := pool [(2, .class_ 4), (1, u "java/lang/Object"), (0, u "<init>"), (0, u "()V"), (1, .class_ 10), (1, u "java/lang/Number"), (2, .class_ 14), (0, u "java/io/Serializable"), (0, u "serialVersionUID"), (0, u "J")] 20

def k7m0 : Method := { name := "<init>", desc := "()V", sig := { parameters := [], returnType := none }, accessFlags := 1, code := none }
/-- java/lang/Number -/
def k7 : Class := { plain "java/lang/Number" (some 0) with
  accessFlags := 1057
  interfaces := #[6]
  cf := some (fileOf pool7 8 #[] #[{ accessFlags := 1, nameIndex := 5, descriptorIndex := 6, attributes := #[] }] 1057 2 #[13] #[{ accessFlags := 26, nameIndex := 15, descriptorIndex := 16, attributes := #[] }])
  fields := #[{ name := "serialVersionUID", type := .long, accessFlags := 26, slot := 0, constantValue := 0 }]
  methods := #[k7m0]
  instanceTypes := #[]
  staticTypes := #[.long]
  resolved := Array.replicate 37 none
  statics := none }

def pool8 : Array CpInfo := pool [(1, .class_ 2), (0, u "java/lang/Comparable"), (0, .class_ 4), (0, u "java/lang/Object")] 7

/-- java/lang/Comparable -/
def k8 : Class := { plain "java/lang/Comparable" (some 0) with
  accessFlags := 1537
  interfaces := #[]
  cf := some (fileOf pool8 1 #[] #[] 1537 3 #[] #[])
  fields := #[]
  methods := #[]
  instanceTypes := #[]
  staticTypes := #[]
  resolved := Array.replicate 12 none
  statics := none }

def pool9 : Array CpInfo := pool [(1, .class_ 2), (0, u "java/lang/constant/Constable"), (0, .class_ 4), (0, u "java/lang/Object")] 6

/-- java/lang/constant/Constable -/
def k9 : Class := { plain "java/lang/constant/Constable" (some 0) with
  accessFlags := 1537
  interfaces := #[]
  cf := some (fileOf pool9 1 #[] #[] 1537 3 #[] #[])
  fields := #[]
  methods := #[]
  instanceTypes := #[]
  staticTypes := #[]
  resolved := Array.replicate 11 none
  statics := none }

def pool10 : Array CpInfo := pool [(1, .class_ 2), (0, u "java/lang/constant/ConstantDesc"), (0, .class_ 4), (0, u "java/lang/Object")] 32

/-- java/lang/constant/ConstantDesc -/
def k10 : Class := { plain "java/lang/constant/ConstantDesc" (some 0) with
  accessFlags := 1537
  interfaces := #[]
  cf := some (fileOf pool10 1 #[] #[] 1537 3 #[] #[])
  fields := #[]
  methods := #[]
  instanceTypes := #[]
  staticTypes := #[]
  resolved := Array.replicate 37 none
  statics := none }

def pool11 : Array CpInfo := pool [(1, .class_ 2), (0, u "java/lang/Long"), (15, .class_ 20), (1, u "java/lang/Integer"), (80, u "(J)I"), (133, .class_ 237), (1, u "java/lang/Long$LongCache"), (33, .class_ 272), (0, u "java/lang/Number"), (2, u "value"), (0, u "J"), (33, u "(I)I"), (0, .methodref 18 312), (0, .nameAndType 313 310), (0, u "numberOfTrailingZeros"), (47, u "TYPE"), (0, u "Ljava/lang/Class;"), (0, .class_ 364), (0, u "java/lang/Comparable"), (0, .class_ 366), (0, u "java/lang/constant/Constable"), (0, .class_ 368), (0, u "java/lang/constant/ConstantDesc"), (0, u "MIN_VALUE"), (1, u "MAX_VALUE"), (4, u "SIZE"), (0, u "I"), (1, u "BYTES"), (1, u "serialVersionUID")] 142

def k11c0 : Code := { maxStack := 4, maxLocals := 3, code := jdk_35_method_49_code, exceptionTable := #[], attributes := #[] }
def k11m0 : Method := { name := "numberOfTrailingZeros", desc := "(J)I", sig := { parameters := [.long], returnType := some .int }, accessFlags := 9, code := some k11c0 }
/-- java/lang/Long -/
def k11 : Class := { plain "java/lang/Long" (some 7) with
  accessFlags := 49
  interfaces := #[8, 9, 10]
  cf := some (fileOf pool11 1 #[.nestMembers #[235]] #[{ accessFlags := 9, nameIndex := 313, descriptorIndex := 101, attributes := #[] }] 49 271 #[363, 365, 367] #[{ accessFlags := 25, nameIndex := 369, descriptorIndex := 276, attributes := #[] }, { accessFlags := 25, nameIndex := 371, descriptorIndex := 276, attributes := #[] }, { accessFlags := 25, nameIndex := 361, descriptorIndex := 362, attributes := #[] }, { accessFlags := 18, nameIndex := 275, descriptorIndex := 276, attributes := #[] }, { accessFlags := 25, nameIndex := 376, descriptorIndex := 377, attributes := #[] }, { accessFlags := 25, nameIndex := 379, descriptorIndex := 377, attributes := #[] }, { accessFlags := 26, nameIndex := 381, descriptorIndex := 276, attributes := #[] }])
  fields := #[{ name := "MIN_VALUE", type := .long, accessFlags := 25, slot := 0, constantValue := 0 }, { name := "MAX_VALUE", type := .long, accessFlags := 25, slot := 1, constantValue := 0 }, { name := "TYPE", type := (.object "java/lang/Class"), accessFlags := 25, slot := 2, constantValue := 0 }, { name := "value", type := .long, accessFlags := 18, slot := 0, constantValue := 0 }, { name := "SIZE", type := .int, accessFlags := 25, slot := 3, constantValue := 0 }, { name := "BYTES", type := .int, accessFlags := 25, slot := 4, constantValue := 0 }, { name := "serialVersionUID", type := .long, accessFlags := 26, slot := 5, constantValue := 0 }]
  methods := #[k11m0]
  instanceTypes := #[.long]
  staticTypes := #[.long, .long, (.object "java/lang/Class"), .int, .int, .long]
  resolved := Array.replicate 524 none
  statics := none }

def pool12 : Array CpInfo := pool [(1, .class_ 2), (0, u "java/lang/Integer"), (16, u "digits"), (0, u "[C"), (33, u "(I)I"), (30, u "DigitOnes"), (0, u "[B"), (2, u "DigitTens"), (99, .class_ 190), (0, u "java/lang/Integer$IntegerCache"), (3, u "I"), (8, .class_ 204), (0, u "java/lang/Number"), (2, u "value"), (56, .integer 65536), (37, u "TYPE"), (0, u "Ljava/lang/Class;"), (0, .class_ 305), (0, u "java/lang/Comparable"), (0, .class_ 307), (0, u "java/lang/constant/Constable"), (0, .class_ 309), (0, u "java/lang/constant/ConstantDesc"), (0, u "MIN_VALUE"), (1, u "MAX_VALUE"), (3, u "SIZE"), (1, u "BYTES"), (1, u "serialVersionUID"), (0, u "J"), (84, u "numberOfTrailingZeros")] 46

def k12c0 : Code := { maxStack := 3, maxLocals := 2, code := jdk_33_method_48_code, exceptionTable := #[], attributes := #[] }
def k12m0 : Method := { name := "numberOfTrailingZeros", desc := "(I)I", sig := { parameters := [.int], returnType := some .int }, accessFlags := 9, code := some k12c0 }
/-- java/lang/Integer -/
def k12 : Class := { plain "java/lang/Integer" (some 7) with
  accessFlags := 49
  interfaces := #[8, 9, 10]
  cf := some (fileOf pool12 1 #[.nestMembers #[189]] #[{ accessFlags := 9, nameIndex := 406, descriptorIndex := 54, attributes := #[] }] 49 203 #[304, 306, 308] #[{ accessFlags := 25, nameIndex := 310, descriptorIndex := 194, attributes := #[] }, { accessFlags := 25, nameIndex := 312, descriptorIndex := 194, attributes := #[] }, { accessFlags := 25, nameIndex := 302, descriptorIndex := 303, attributes := #[] }, { accessFlags := 24, nameIndex := 19, descriptorIndex := 20, attributes := #[] }, { accessFlags := 24, nameIndex := 89, descriptorIndex := 86, attributes := #[] }, { accessFlags := 24, nameIndex := 85, descriptorIndex := 86, attributes := #[] }, { accessFlags := 18, nameIndex := 207, descriptorIndex := 194, attributes := #[] }, { accessFlags := 25, nameIndex := 316, descriptorIndex := 194, attributes := #[] }, { accessFlags := 25, nameIndex := 318, descriptorIndex := 194, attributes := #[] }, { accessFlags := 26, nameIndex := 320, descriptorIndex := 321, attributes := #[] }])
  fields := #[{ name := "MIN_VALUE", type := .int, accessFlags := 25, slot := 0, constantValue := 0 }, { name := "MAX_VALUE", type := .int, accessFlags := 25, slot := 1, constantValue := 0 }, { name := "TYPE", type := (.object "java/lang/Class"), accessFlags := 25, slot := 2, constantValue := 0 }, { name := "digits", type := (.array .char), accessFlags := 24, slot := 3, constantValue := 0 }, { name := "DigitTens", type := (.array .byte), accessFlags := 24, slot := 4, constantValue := 0 }, { name := "DigitOnes", type := (.array .byte), accessFlags := 24, slot := 5, constantValue := 0 }, { name := "value", type := .int, accessFlags := 18, slot := 0, constantValue := 0 }, { name := "SIZE", type := .int, accessFlags := 25, slot := 6, constantValue := 0 }, { name := "BYTES", type := .int, accessFlags := 25, slot := 7, constantValue := 0 }, { name := "serialVersionUID", type := .long, accessFlags := 26, slot := 8, constantValue := 0 }]
  methods := #[k12m0]
  instanceTypes := #[.int]
  staticTypes := #[.int, .int, (.object "java/lang/Class"), (.array .char), (.array .byte), (.array .byte), .int, .int, .long]
  resolved := Array.replicate 453 none
  statics := none }

def pool13 : Array CpInfo := pool [(1, u "java/lang/Cloneable"), (0, .class_ 1), (0, u "java/lang/Object"), (0, .class_ 3)] 3

/-- java/lang/Cloneable -/
def k13 : Class := { plain "java/lang/Cloneable" (some 0) with
  accessFlags := 1537
  interfaces := #[]
  cf := some (fileOf pool13 2 #[] #[] 1537 4 #[] #[])
  fields := #[]
  methods := #[]
  instanceTypes := #[]
  staticTypes := #[]
  resolved := Array.replicate 8 none
  statics := none }

/-- the primitive byte -/
def k14 : Class := { plain "byte" none with kind := .primitive 'B', accessFlags := 0x411 }
/-- [B -/
def k15 : Class := { plain "[B" (some 0) with kind := .array 14 .byte, interfaces := #[13, 6], accessFlags := 1041 }

/-- the primitive int -/
def k16 : Class := { plain "int" none with kind := .primitive 'I', accessFlags := 0x411 }
/-- [I -/
def k17 : Class := { plain "[I" (some 0) with kind := .array 16 .int, interfaces := #[13, 6], accessFlags := 1041 }

/-- the primitive long -/
def k18 : Class := { plain "long" none with kind := .primitive 'J', accessFlags := 0x411 }
/-- [J -/
def k19 : Class := { plain "[J" (some 0) with kind := .array 18 .long, interfaces := #[13, 6], accessFlags := 1041 }

/-- [[J: by hand, the program does not make an array class over an array -/
def k20 : Class := { plain "[[J" (some 0) with kind := .array 19 (.array .long), interfaces := #[13, 6], accessFlags := 1041 }

def heap : Heap := #[]
def classes : Array Class := #[k0, k1, k2, k3, k4, k5, k6, k7, k8, k9, k10, k11, k12, k13, k14, k15, k16, k17, k18, k19, k20]
def interned : List (Array UInt16 × Addr) := []
def slotsUsed : Nat := 0
def theMethod : MethodId := ⟨1, 1⟩
def args0 : Array Value := #[.int 100, .int 5, .int 7, .int 30]
def aboutOver (below : List Frame) : State where
  vm := { classes := classes, interned := interned.toArray }
  heap := heap
  slotsUsed := slotsUsed
  threads := #[{ frames := .invoking theMethod args0 :: below }]
def below0 : List Frame := [.native { method := ⟨0, 0⟩, args := #[] }]
def about1 : State := aboutOver below0
def p0 : Program := .bare "" "" ""
def e0 : Env := launch0.env 0 0 0
theorem w_frames : about1.frames = Frame.invoking theMethod args0 :: below0 := rfl
set_option maxRecDepth 65536 in
theorem w_args : argsFit about1.vm theMethod args0 = true := by decide +kernel
set_option maxRecDepth 65536 in
theorem w_heap : heapFits about1 = true := by decide +kernel
set_option maxRecDepth 65536 in
theorem w_runnable : about1.curStatus? = some .runnable := by decide +kernel
set_option maxRecDepth 65536 in
theorem w_alone : about1.alone = true := by decide +kernel
set_option maxRecDepth 65536 in
theorem w_named : about1.methodNamed? x = some theMethod := by decide +kernel
set_option maxRecDepth 65536 in
theorem w_hears : about1.hears theMethod below0 = true := by decide +kernel
set_option maxRecDepth 65536 in
theorem w_ripe : about1.ripe theMethod args0 below0 = true := by decide +kernel
theorem w_running : about1.status = .running := rfl
set_option maxRecDepth 65536 in
theorem w_room : about1.hasRoom e0.platform room_1 = true :=
  launch0.hasRoom_least _ room_1 (by decide +kernel) (by decide +kernel) (by decide +kernel) (by decide +kernel) (by decide +kernel) (by decide +kernel)
theorem allAtoms_all (ts : List Jvm.Cond) (a : Array Jvm.Value) (st : Jvm.State) : (allAtoms ts).before a st = ts.all (fun c => c.before a st) := by
  induction ts with
  | nil => rfl
  | cons c t ih =>
    show (Jvm.Cond.and c (allAtoms t)).before a st = _
    rw [Jvm.Cond.before_and, ih, List.all_cons]
def words1 : List Jvm.Cond := Jvm.Cond.code x code maxLocals ret :: tables_1
/-- a 'code' word, met by the world's own term for the bytes: nothing is compared byte by byte -/
theorem code_word {y : MethodName} {bytes : ByteArray} {mx : Nat} {rt : Option FieldType} {a : Array Value} {s : State} {m : MethodId} {meth : Method} {c : Code} (h1 : s.methodNamed? y = some m) (h2 : s.vm.method? m = some meth) (h3 : meth.code = some c) (h4 : c.code = bytes)
    (h5 : (c.maxLocals == mx && c.exceptionTable.isEmpty && decide (c.maxStack ≤ mostOperands) && decide (meth.sig.returnType = rt) && !meth.locks && decide (parseMethodDescriptor y.desc = some meth.sig)) = true) : (Jvm.Cond.code y bytes mx rt).before a s = true := by
  simp only [Bool.and_eq_true, beq_iff_eq, Bool.not_eq_true', decide_eq_true_eq] at h5
  obtain ⟨⟨⟨⟨⟨g1, g2⟩, g3⟩, g4⟩, g5⟩, g6⟩ := h5
  simp [Cond.before, Cond.holds, Cond.value, h1, h2, h3, h4, g1, g2, g3, g4, g5, g6]
def isCode : Jvm.Cond → Bool
  | .code _ _ _ _ => true
  | _ => false
theorem all_split {L : List Jvm.Cond} {P : Jvm.Cond → Bool} (h1 : L.all (fun c => isCode c || P c) = true) (h2 : ∀ c ∈ L.filter isCode, P c = true) : L.all P = true := by
  refine List.all_eq_true.mpr fun c hc => ?_
  have h := List.all_eq_true.mp h1 c hc
  rcases Bool.eq_false_or_eq_true (isCode c) with hi | hi
  · exact h2 c (List.mem_filter.mpr ⟨hc, hi⟩)
  · simpa [hi] using h
set_option maxRecDepth 65536 in
theorem w_c0 : (Jvm.Cond.code x code maxLocals ret).before args0 about1 = true := code_word (m := ⟨1, 1⟩) (meth := k1m1) (c := k1c1) (by decide +kernel) rfl rfl rfl (by decide +kernel)
set_option maxRecDepth 65536 in
theorem w_c1 : (Jvm.Cond.code ({ cls := "com/example/halfword/halfword/verify/RoundRobinSet", name := "<init>", desc := "(I)V" } : Jvm.MethodName) prog_103_method_1_code (6 : Nat) (Option.none : Option Jvm.ClassFile.FieldType)).before args0 about1 = true := code_word (m := ⟨2, 0⟩) (meth := k2m0) (c := k2c0) (by decide +kernel) rfl rfl rfl (by decide +kernel)
set_option maxRecDepth 65536 in
theorem w_c2 : (Jvm.Cond.code ({ cls := "java/lang/Object", name := "<init>", desc := "()V" } : Jvm.MethodName) object_method_1_code (1 : Nat) (Option.none : Option Jvm.ClassFile.FieldType)).before args0 about1 = true := code_word (m := ⟨0, 0⟩) (meth := k0m0) (c := k0c0) (by decide +kernel) rfl rfl rfl (by decide +kernel)
set_option maxRecDepth 65536 in
theorem w_c3 : (Jvm.Cond.code ({ cls := "com/example/halfword/halfword/verify/RoundRobinSet", name := "words", desc := "(J)J" } : Jvm.MethodName) prog_103_method_2_code (2 : Nat) (Option.some Jvm.ClassFile.FieldType.long)).before args0 about1 = true := code_word (m := ⟨2, 1⟩) (meth := k2m1) (c := k2c1) (by decide +kernel) rfl rfl rfl (by decide +kernel)
set_option maxRecDepth 65536 in
theorem w_c4 : (Jvm.Cond.code ({ cls := "java/lang/Math", name := "max", desc := "(JJ)J" } : Jvm.MethodName) jdk_29_method_66_code (4 : Nat) (Option.some Jvm.ClassFile.FieldType.long)).before args0 about1 = true := code_word (m := ⟨3, 1⟩) (meth := k3m1) (c := k3c1) (by decide +kernel) rfl rfl rfl (by decide +kernel)
set_option maxRecDepth 65536 in
theorem w_c5 : (Jvm.Cond.code ({ cls := "com/example/halfword/halfword/verify/RoundRobinSet", name := "isEmpty", desc := "()Z" } : Jvm.MethodName) prog_103_method_3_code (1 : Nat) (Option.some Jvm.ClassFile.FieldType.boolean)).before args0 about1 = true := code_word (m := ⟨2, 2⟩) (meth := k2m2) (c := k2c2) (by decide +kernel) rfl rfl rfl (by decide +kernel)
set_option maxRecDepth 65536 in
theorem w_c6 : (Jvm.Cond.code ({ cls := "com/example/halfword/halfword/verify/RoundRobinSet", name := "add", desc := "(I)V" } : Jvm.MethodName) prog_103_method_4_code (10 : Nat) (Option.none : Option Jvm.ClassFile.FieldType)).before args0 about1 = true := code_word (m := ⟨2, 3⟩) (meth := k2m3) (c := k2c3) (by decide +kernel) rfl rfl rfl (by decide +kernel)
set_option maxRecDepth 65536 in
theorem w_c7 : (Jvm.Cond.code ({ cls := "java/util/Objects", name := "checkIndex", desc := "(II)I" } : Jvm.MethodName) jdk_31_method_17_code (2 : Nat) (Option.some Jvm.ClassFile.FieldType.int)).before args0 about1 = true := code_word (m := ⟨4, 1⟩) (meth := k4m1) (c := k4c1) (by decide +kernel) rfl rfl rfl (by decide +kernel)
set_option maxRecDepth 65536 in
theorem w_c8 : (Jvm.Cond.code ({ cls := "jdk/internal/util/Preconditions", name := "checkIndex", desc := "(IILjava/util/function/BiFunction;)I" } : Jvm.MethodName) jdk_41_method_11_code (3 : Nat) (Option.some Jvm.ClassFile.FieldType.int)).before args0 about1 = true := code_word (m := ⟨5, 1⟩) (meth := k5m1) (c := k5c1) (by decide +kernel) rfl rfl rfl (by decide +kernel)
set_option maxRecDepth 65536 in
theorem w_c9 : (Jvm.Cond.code ({ cls := "com/example/halfword/halfword/verify/RoundRobinSet", name := "take", desc := "()I" } : Jvm.MethodName) prog_103_method_5_code (3 : Nat) (Option.some Jvm.ClassFile.FieldType.int)).before args0 about1 = true := code_word (m := ⟨2, 4⟩) (meth := k2m4) (c := k2c4) (by decide +kernel) rfl rfl rfl (by decide +kernel)
set_option maxRecDepth 65536 in
theorem w_c10 : (Jvm.Cond.code ({ cls := "com/example/halfword/halfword/verify/RoundRobinSet", name := "next", desc := "(J)J" } : Jvm.MethodName) prog_103_method_6_code (10 : Nat) (Option.some Jvm.ClassFile.FieldType.long)).before args0 about1 = true := code_word (m := ⟨2, 5⟩) (meth := k2m5) (c := k2c5) (by decide +kernel) rfl rfl rfl (by decide +kernel)
set_option maxRecDepth 65536 in
theorem w_c11 : (Jvm.Cond.code ({ cls := "java/lang/Long", name := "numberOfTrailingZeros", desc := "(J)I" } : Jvm.MethodName) jdk_35_method_49_code (3 : Nat) (Option.some Jvm.ClassFile.FieldType.int)).before args0 about1 = true := code_word (m := ⟨11, 0⟩) (meth := k11m0) (c := k11c0) (by decide +kernel) rfl rfl rfl (by decide +kernel)
set_option maxRecDepth 65536 in
theorem w_c12 : (Jvm.Cond.code ({ cls := "java/lang/Integer", name := "numberOfTrailingZeros", desc := "(I)I" } : Jvm.MethodName) jdk_33_method_48_code (2 : Nat) (Option.some Jvm.ClassFile.FieldType.int)).before args0 about1 = true := code_word (m := ⟨12, 0⟩) (meth := k12m0) (c := k12c0) (by decide +kernel) rfl rfl rfl (by decide +kernel)
set_option maxRecDepth 65536 in
theorem w_c13 : (Jvm.Cond.code ({ cls := "com/example/halfword/halfword/verify/RoundRobinSet", name := "remove", desc := "(J)V" } : Jvm.MethodName) prog_103_method_7_code (10 : Nat) (Option.none : Option Jvm.ClassFile.FieldType)).before args0 about1 = true := code_word (m := ⟨2, 6⟩) (meth := k2m6) (c := k2c6) (by decide +kernel) rfl rfl rfl (by decide +kernel)
def codes1 : List Jvm.Cond := [Jvm.Cond.code x code maxLocals ret, Jvm.Cond.code ({ cls := "com/example/halfword/halfword/verify/RoundRobinSet", name := "<init>", desc := "(I)V" } : Jvm.MethodName) prog_103_method_1_code (6 : Nat) (Option.none : Option Jvm.ClassFile.FieldType), Jvm.Cond.code ({ cls := "java/lang/Object", name := "<init>", desc := "()V" } : Jvm.MethodName) object_method_1_code (1 : Nat) (Option.none : Option Jvm.ClassFile.FieldType), Jvm.Cond.code ({ cls := "com/example/halfword/halfword/verify/RoundRobinSet", name := "words", desc := "(J)J" } : Jvm.MethodName) prog_103_method_2_code (2 : Nat) (Option.some Jvm.ClassFile.FieldType.long), Jvm.Cond.code ({ cls := "java/lang/Math", name := "max", desc := "(JJ)J" } : Jvm.MethodName) jdk_29_method_66_code (4 : Nat) (Option.some Jvm.ClassFile.FieldType.long), Jvm.Cond.code ({ cls := "com/example/halfword/halfword/verify/RoundRobinSet", name := "isEmpty", desc := "()Z" } : Jvm.MethodName) prog_103_method_3_code (1 : Nat) (Option.some Jvm.ClassFile.FieldType.boolean), Jvm.Cond.code ({ cls := "com/example/halfword/halfword/verify/RoundRobinSet", name := "add", desc := "(I)V" } : Jvm.MethodName) prog_103_method_4_code (10 : Nat) (Option.none : Option Jvm.ClassFile.FieldType), Jvm.Cond.code ({ cls := "java/util/Objects", name := "checkIndex", desc := "(II)I" } : Jvm.MethodName) jdk_31_method_17_code (2 : Nat) (Option.some Jvm.ClassFile.FieldType.int), Jvm.Cond.code ({ cls := "jdk/internal/util/Preconditions", name := "checkIndex", desc := "(IILjava/util/function/BiFunction;)I" } : Jvm.MethodName) jdk_41_method_11_code (3 : Nat) (Option.some Jvm.ClassFile.FieldType.int), Jvm.Cond.code ({ cls := "com/example/halfword/halfword/verify/RoundRobinSet", name := "take", desc := "()I" } : Jvm.MethodName) prog_103_method_5_code (3 : Nat) (Option.some Jvm.ClassFile.FieldType.int), Jvm.Cond.code ({ cls := "com/example/halfword/halfword/verify/RoundRobinSet", name := "next", desc := "(J)J" } : Jvm.MethodName) prog_103_method_6_code (10 : Nat) (Option.some Jvm.ClassFile.FieldType.long), Jvm.Cond.code ({ cls := "java/lang/Long", name := "numberOfTrailingZeros", desc := "(J)I" } : Jvm.MethodName) jdk_35_method_49_code (3 : Nat) (Option.some Jvm.ClassFile.FieldType.int), Jvm.Cond.code ({ cls := "java/lang/Integer", name := "numberOfTrailingZeros", desc := "(I)I" } : Jvm.MethodName) jdk_33_method_48_code (2 : Nat) (Option.some Jvm.ClassFile.FieldType.int), Jvm.Cond.code ({ cls := "com/example/halfword/halfword/verify/RoundRobinSet", name := "remove", desc := "(J)V" } : Jvm.MethodName) prog_103_method_7_code (10 : Nat) (Option.none : Option Jvm.ClassFile.FieldType)]
set_option maxRecDepth 65536 in
theorem codes_eq : words1.filter isCode = codes1 := rfl
theorem w_codes : ∀ c ∈ words1.filter isCode, c.before args0 about1 = true := by
  rw [codes_eq]
  intro c hc
  simp only [codes1, List.mem_cons, List.not_mem_nil, or_false] at hc
  rcases hc with rfl | rfl | rfl | rfl | rfl | rfl | rfl | rfl | rfl | rfl | rfl | rfl | rfl | rfl
  · exact w_c0
  · exact w_c1
  · exact w_c2
  · exact w_c3
  · exact w_c4
  · exact w_c5
  · exact w_c6
  · exact w_c7
  · exact w_c8
  · exact w_c9
  · exact w_c10
  · exact w_c11
  · exact w_c12
  · exact w_c13
set_option maxRecDepth 65536 in
theorem w_t1 : (words1.take 24).all (fun c => isCode c || c.before args0 about1) = true := by decide +kernel
set_option maxRecDepth 65536 in
theorem w_t2 : ((words1.drop 24).take 24).all (fun c => isCode c || c.before args0 about1) = true := by decide +kernel
set_option maxRecDepth 65536 in
theorem w_t3 : ((words1.drop 24).drop 24).all (fun c => isCode c || c.before args0 about1) = true := by decide +kernel
theorem w_tables : (allAtoms (Jvm.Cond.code x code maxLocals ret :: tables_1)).before args0 about1 = true := by
  rw [allAtoms_all]
  show words1.all (fun c => c.before args0 about1) = true
  refine all_split ?_ w_codes
  rw [← List.take_append_drop 24 words1, List.all_append, w_t1, ← List.take_append_drop 24 (words1.drop 24), List.all_append, w_t2, w_t3]
  rfl
set_option maxRecDepth 65536 in
theorem w_case : (Jvm.Cond.and given_1 narrow_1).before args0 about1 = true := by decide +kernel
theorem w_applies : (headSpec (Jvm.Cond.code x code maxLocals ret :: tables_1) room_1).applies x e0.platform about1 = true :=
  (Spec.applies_iff w_frames).mpr ⟨w_running, w_runnable, w_alone, w_named, w_hears, w_ripe, w_room, w_tables⟩
theorem atStart : AtStart classFile x code maxLocals ret World_1 tables_1 room_1 Calls_1 rest_1 Pre_1 launch0 p0 e0 about1 theMethod args0 below0 :=
  ⟨lists_1, trivial, launch0.admits_env _ _ _, launch0.least_env, fairChoices_fair.cas, fairChoices_fair.clock, w_frames, w_args, w_heap, w_applies, trivial, trivial, w_case⟩
end start1
theorem witness_1 : WitnessClaimed_1 := ⟨start1.p0, start1.e0, start1.about1, start1.theMethod, start1.args0, start1.below0, start1.atStart⟩
end Jvm.Pilot.@@N@@
